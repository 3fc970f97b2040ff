import PyProof.Rows.All
import Wide.All
import OpenK.AllK
import Wide.FinOn
import KE.KItem
import KE.KPop
import KE.KTupTruth
import PyProof.NoPylong
import OpenK.KMake
import Lean
import PySem.Challenge.RW_te0041_02
open PySem PySem.W PyProof.Rows PySem.SeqAt
set_option Elab.async false
set_option tactic.hygienic false
set_option genInjectivity false
set_option genSizeOf false
set_option maxRecDepth 100000
set_option backward.match.sparseCases false
set_option linter.unusedVariables false
namespace Mine
section
set_option maxHeartbeats 0
set_option backward.match.sparseCases true
abbrev pw:Program:=PySem.Challenge.pw_te0041_02
noncomputable def zQ:Stmt->Arguments×List Stmt×Scope
 | .FunctionDef _ params body _ _ _ scope _ _ _=>(params,body,scope)
 |_=>(⟨[],[],none,[],[],none,[]⟩,[],default)
noncomputable def HK:Stmt->List Stmt
 | .ClassDef _ _ _ body _ _ _ _ _ _ _=>body
 |_=>[]
noncomputable def r7:List Stmt->Nat->Stmt
 |[],_=> .Pass ⟨0,0,0,0⟩
 |s::_,0=>s
 |_::r,n+1=>r7 r n
noncomputable def di(i:Nat):Arguments×List Stmt×Scope:=zQ (r7 pw.main.body i)
noncomputable def aM(i j:Nat):Arguments×List Stmt×Scope:=zQ (r7 (HK (r7 pw.main.body i)) j)
noncomputable def fZ:List Addr:=[1,3,42,41,63,62,70,69,73,72,84,83,98,97,105,104,112,111,119,118,126,125,133,132,141,140,134,148,147,156,155,149,163,162,166,165,261,260,254,268,267,297,296,304,303,339,338,416,415,423,422,430,429,437,436,444,443,451,450,458,457,465,464,472,471,479,478,486,485,493,492,500,499,507,506,514,513,521,520,528,527,535,534,542,541,591,590,762,761,773,772,782,781,787,786,794,793,801,800,808,807,813,812,820,819,825,824,22,27,48,49,774,775]
noncomputable def kC(a:Addr)(x:Str)(n:Nat)(y:Str)(l b z k:Int)(U:Addr)(f:Int)(V:Addr)(u v w:Value)(W:Addr)(t:Nat):Addr×Obj:=
 (a,⟨.type "code",none, .fields [.str x n, .str y (n+1), .str "/claim/cut.py" (n+2), .int l 0, .int b 0, .int 0 0, .int z 0, .int k 0, .ref U, .bool true, .int f 0, .ref V,u,v,w, .ref W, .int t 0, .int l 0, .str "/claim/cut.py" (t+1)].toArray,[].toArray⟩)
noncomputable def kF(a:Addr)(x y:Str)(f:Arguments×List Stmt×Scope)(d:Value)(m:Str)(n:Nat)(r:Addr):Addr×Obj:=
 (a,⟨.type "function",none, .func ⟨x,y,f.1, .stmts f.2.1,f.2.2,3,[],d, .none, .none, .str m n,none, .ref r, .none,0⟩,[].toArray⟩)
noncomputable def kE(P:Params)(x:Str)(n:Nat)(v:Value):DictEntry:=⟨PyData.keyHash P x, .str x n,v⟩
noncomputable def kR(P:Params)(x:Str)(n:Nat)(a:Addr):DictEntry:=⟨PyData.keyHash P x, .str x n, .ref a⟩
noncomputable def KL:Params->List (Addr×Obj):=λP=>[
 (1,⟨(.type "dict"),none,(.dict [kR P "builtins" 162 4,kR P "__main__" 163 5].toArray 2),[].toArray⟩),
 (3,⟨(.type "dict"),none,(.dict [kE P "__name__" 165 (.str "law_te0041_02" 1467),kE P "__doc__" 166 .none,kE P "__package__" 167 .none,kE P "__loader__" 168 (.builtin "__main__.__loader__#opaque"),kE P "__spec__" 169 .none,kR P "__annotations__" 170 6,kR P "__builtins__" 171 4,kE P "__file__" 173 (.str "/claim/cut.py" 172),kE P "__cached__" 174 .none,kR P "_wall" 193 21,kE P "EOF" 196 .none,kR P "spaceCharacters" 202 22,kR P "asciiLetters" 256 27,kR P "digits" 268 32,kR P "hexDigits" 292 37,kR P "asciiLower" 298 42,kR P "entities" 428 43,kR P "replacementCharacters" 531 46,kR P "tokenTypes" 556 48,kR P "tagTokenTypes" 563 49,kR P "Text" 604 73,kR P "_is_invalid" 611 84,kR P "HTMLUnicodeInputStream" 737 166,kR P "bisect_left" 751 178,kR P "Trie" 826 230,kR P "entitiesTrie" 843 236,kR P "HTMLTokenizer" 1466 762,kR P "_law_HEADS" 1474 773,kR P "_law_PIECES" 1495 774,kR P "_law_STOPS" 1501 775,kR P "_law_CUTS" 1507 782,kR P "_law_small" 1513 787,kR P "_law_say" 1521 794,kR P "_law_body" 1531 801,kR P "_law_turns" 1545 808,kR P "_law_due" 1551 813,kR P "_law_run" 1563 820,kR P "law" 1569 825].toArray 38),[].toArray⟩),
 kF 42 "asciiLower" "asciiLower" (di 7) .none "html5lib.constants" 194 41,
 kC 41 "asciiLower" 293 "asciiLower" 10 1 0 3 38 181 39 .none .none .none 40 296,
 kF 63 "__init__" "Text.__init__" (aM 13 0) .none "html5lib._inputstream" 564 62,
 kC 62 "__init__" 578 "Text.__init__" 19 2 0 3 57 181 58 .none (.ref 59) (.ref 60) 61 583,
 kF 70 "read" "Text.read" (aM 13 1) .none "html5lib._inputstream" 564 69,
 kC 69 "read" 586 "Text.read" 23 2 0 3 64 181 65 .none (.ref 66) (.ref 67) 68 592,
 (73,⟨(.type "type"),none,(.cls ⟨"Text",[(.type "object")],[(.ref 73),(.type "object")],72,"Text",true,[],[],false,none,false⟩),[some (.ref 50),none,some (.str "Text" 566),some (.str "Text" 574),some (.builtin "object.__new__"),some (.bool true)].toArray⟩),
 (72,⟨(.type "dict"),none,(.dict [kE P "__module__" 573 (.str "html5lib._inputstream" 564),kE P "__firstlineno__" 577 (.int (17) 576),kR P "__init__" 585 63,kR P "read" 594 70,kR P "__static_attributes__" 597 71,kR P "__dict__" 599 74,kR P "__weakref__" 601 75,kE P "__doc__" 602 .none].toArray 4),[].toArray⟩),
 kF 84 "_is_invalid" "_is_invalid" (di 14) .none "html5lib._inputstream" 564 83,
 kC 83 "_is_invalid" 605 "_is_invalid" 27 1 0 3 78 181 79 .none (.ref 80) (.ref 81) 82 609,
 kF 98 "__init__" "HTMLUnicodeInputStream.__init__" (aM 15 1) .none "html5lib._inputstream" 564 97,
 kC 97 "__init__" 626 "HTMLUnicodeInputStream.__init__" 32 2 0 3 92 181 93 .none (.ref 94) (.ref 95) 96 631,
 kF 105 "reset" "HTMLUnicodeInputStream.reset" (aM 15 2) .none "html5lib._inputstream" 564 104,
 kC 104 "reset" 634 "HTMLUnicodeInputStream.reset" 38 1 0 3 99 181 100 .none (.ref 101) (.ref 102) 103 638,
 kF 112 "openStream" "HTMLUnicodeInputStream.openStream" (aM 15 3) .none "html5lib._inputstream" 564 111,
 kC 111 "openStream" 641 "HTMLUnicodeInputStream.openStream" 47 2 0 3 106 181 107 .none (.ref 108) (.ref 109) 110 647,
 kF 119 "_position" "HTMLUnicodeInputStream._position" (aM 15 4) .none "html5lib._inputstream" 564 118,
 kC 118 "_position" 650 "HTMLUnicodeInputStream._position" 51 2 0 3 113 181 114 .none (.ref 115) (.ref 116) 117 660,
 kF 126 "position" "HTMLUnicodeInputStream.position" (aM 15 5) .none "html5lib._inputstream" 564 125,
 kC 125 "position" 663 "HTMLUnicodeInputStream.position" 62 1 0 3 120 181 121 .none (.ref 122) (.ref 123) 124 669,
 kF 133 "char" "HTMLUnicodeInputStream.char" (aM 15 6) .none "html5lib._inputstream" 564 132,
 kC 132 "char" 672 "HTMLUnicodeInputStream.char" 66 1 0 3 127 181 128 .none (.ref 129) (.ref 130) 131 678,
 kF 141 "readChunk" "HTMLUnicodeInputStream.readChunk" (aM 15 7) (.ref 134) "html5lib._inputstream" 564 140,
 kC 140 "readChunk" 681 "HTMLUnicodeInputStream.readChunk" 75 2 0 3 135 181 136 .none (.ref 137) (.ref 138) 139 688,
 (134,⟨(.type "tuple"),none,(.seq [.none].toArray 0),[].toArray⟩),
 kF 148 "characterErrorsUCS4" "HTMLUnicodeInputStream.characterErrorsUCS4" (aM 15 8) .none "html5lib._inputstream" 564 147,
 kC 147 "characterErrorsUCS4" 691 "HTMLUnicodeInputStream.characterErrorsUCS4" 101 2 0 3 142 181 143 .none (.ref 144) (.ref 145) 146 697,
 kF 156 "charsUntil" "HTMLUnicodeInputStream.charsUntil" (aM 15 9) (.ref 149) "html5lib._inputstream" 564 155,
 kC 155 "charsUntil" 700 "HTMLUnicodeInputStream.charsUntil" 106 3 0 3 150 181 151 .none (.ref 152) (.ref 153) 154 709,
 (149,⟨(.type "tuple"),none,(.seq [(.bool false)].toArray 0),[].toArray⟩),
 kF 163 "unget" "HTMLUnicodeInputStream.unget" (aM 15 10) .none "html5lib._inputstream" 564 162,
 kC 162 "unget" 712 "HTMLUnicodeInputStream.unget" 125 2 0 3 157 181 158 .none (.ref 159) (.ref 160) 161 717,
 (166,⟨(.type "type"),none,(.cls ⟨"HTMLUnicodeInputStream",[(.type "object")],[(.ref 166),(.type "object")],165,"HTMLUnicodeInputStream",true,[],[],false,none,false⟩),[some (.ref 85),none,some (.str "HTMLUnicodeInputStream" 612),some (.str "HTMLUnicodeInputStream" 620),some (.builtin "object.__new__"),some (.bool true)].toArray⟩),
 (165,⟨(.type "dict"),none,(.dict [kE P "__module__" 619 (.str "html5lib._inputstream" 564),kE P "__firstlineno__" 623 (.int (29) 622),kE P "_defaultChunkSize" 625 (.int (10240) 624),kR P "__init__" 633 98,kR P "reset" 640 105,kR P "openStream" 649 112,kR P "_position" 662 119,kR P "position" 671 126,kR P "char" 680 133,kR P "readChunk" 690 141,kR P "characterErrorsUCS4" 699 148,kR P "charsUntil" 711 156,kR P "unget" 719 163,kR P "__static_attributes__" 730 164,kR P "__dict__" 732 167,kR P "__weakref__" 734 168,kE P "__doc__" 735 .none].toArray 4),[].toArray⟩),
 kF 261 "__init__" "HTMLTokenizer.__init__" (aM 21 0) (.ref 254) "html5lib._tokenizer" 827 260,
 kC 260 "__init__" 856 "HTMLTokenizer.__init__" 184 3 0 3 255 181 256 .none (.ref 257) (.ref 258) 259 862,
 (254,⟨(.type "tuple"),none,(.seq [.none].toArray 0),[].toArray⟩),
 kF 268 "__iter__" "HTMLTokenizer.__iter__" (aM 21 1) .none "html5lib._tokenizer" 827 267,
 kC 267 "__iter__" 865 "HTMLTokenizer.__iter__" 193 1 0 35 262 181 263 .none (.ref 264) (.ref 265) 266 869,
 kF 297 "emitCurrentToken" "HTMLTokenizer.emitCurrentToken" (aM 21 5) .none "html5lib._tokenizer" 827 296,
 kC 296 "emitCurrentToken" 910 "HTMLTokenizer.emitCurrentToken" 286 1 0 3 291 181 292 .none (.ref 293) (.ref 294) 295 917,
 kF 304 "dataState" "HTMLTokenizer.dataState" (aM 21 6) .none "html5lib._tokenizer" 827 303,
 kC 303 "dataState" 920 "HTMLTokenizer.dataState" 304 1 0 3 298 181 299 .none (.ref 300) (.ref 301) 302 926,
 kF 339 "scriptDataState" "HTMLTokenizer.scriptDataState" (aM 21 11) .none "html5lib._tokenizer" 827 338,
 kC 338 "scriptDataState" 957 "HTMLTokenizer.scriptDataState" 336 1 0 3 333 181 334 .none (.ref 335) (.ref 336) 337 963,
 kF 416 "scriptDataLessThanSignState" "HTMLTokenizer.scriptDataLessThanSignState" (aM 21 22) .none "html5lib._tokenizer" 827 415,
 kC 415 "scriptDataLessThanSignState" 1039 "HTMLTokenizer.scriptDataLessThanSignState" 431 1 0 3 410 181 411 .none (.ref 412) (.ref 413) 414 1044,
 kF 423 "scriptDataEndTagOpenState" "HTMLTokenizer.scriptDataEndTagOpenState" (aM 21 23) .none "html5lib._tokenizer" 827 422,
 kC 422 "scriptDataEndTagOpenState" 1047 "HTMLTokenizer.scriptDataEndTagOpenState" 445 1 0 3 417 181 418 .none (.ref 419) (.ref 420) 421 1052,
 kF 430 "scriptDataEndTagNameState" "HTMLTokenizer.scriptDataEndTagNameState" (aM 21 24) .none "html5lib._tokenizer" 827 429,
 kC 429 "scriptDataEndTagNameState" 1055 "HTMLTokenizer.scriptDataEndTagNameState" 456 1 0 3 424 181 425 .none (.ref 426) (.ref 427) 428 1061,
 kF 437 "scriptDataEscapeStartState" "HTMLTokenizer.scriptDataEscapeStartState" (aM 21 25) .none "html5lib._tokenizer" 827 436,
 kC 436 "scriptDataEscapeStartState" 1064 "HTMLTokenizer.scriptDataEscapeStartState" 477 1 0 3 431 181 432 .none (.ref 433) (.ref 434) 435 1069,
 kF 444 "scriptDataEscapeStartDashState" "HTMLTokenizer.scriptDataEscapeStartDashState" (aM 21 26) .none "html5lib._tokenizer" 827 443,
 kC 443 "scriptDataEscapeStartDashState" 1072 "HTMLTokenizer.scriptDataEscapeStartDashState" 487 1 0 3 438 181 439 .none (.ref 440) (.ref 441) 442 1077,
 kF 451 "scriptDataEscapedState" "HTMLTokenizer.scriptDataEscapedState" (aM 21 27) .none "html5lib._tokenizer" 827 450,
 kC 450 "scriptDataEscapedState" 1080 "HTMLTokenizer.scriptDataEscapedState" 497 1 0 3 445 181 446 .none (.ref 447) (.ref 448) 449 1086,
 kF 458 "scriptDataEscapedDashState" "HTMLTokenizer.scriptDataEscapedDashState" (aM 21 28) .none "html5lib._tokenizer" 827 457,
 kC 457 "scriptDataEscapedDashState" 1089 "HTMLTokenizer.scriptDataEscapedDashState" 514 1 0 3 452 181 453 .none (.ref 454) (.ref 455) 456 1094,
 kF 465 "scriptDataEscapedDashDashState" "HTMLTokenizer.scriptDataEscapedDashDashState" (aM 21 29) .none "html5lib._tokenizer" 827 464,
 kC 464 "scriptDataEscapedDashDashState" 1097 "HTMLTokenizer.scriptDataEscapedDashDashState" 532 1 0 3 459 181 460 .none (.ref 461) (.ref 462) 463 1102,
 kF 472 "scriptDataEscapedLessThanSignState" "HTMLTokenizer.scriptDataEscapedLessThanSignState" (aM 21 30) .none "html5lib._tokenizer" 827 471,
 kC 471 "scriptDataEscapedLessThanSignState" 1105 "HTMLTokenizer.scriptDataEscapedLessThanSignState" 552 1 0 3 466 181 467 .none (.ref 468) (.ref 469) 470 1110,
 kF 479 "scriptDataEscapedEndTagOpenState" "HTMLTokenizer.scriptDataEscapedEndTagOpenState" (aM 21 31) .none "html5lib._tokenizer" 827 478,
 kC 478 "scriptDataEscapedEndTagOpenState" 1113 "HTMLTokenizer.scriptDataEscapedEndTagOpenState" 567 1 0 3 473 181 474 .none (.ref 475) (.ref 476) 477 1118,
 kF 486 "scriptDataEscapedEndTagNameState" "HTMLTokenizer.scriptDataEscapedEndTagNameState" (aM 21 32) .none "html5lib._tokenizer" 827 485,
 kC 485 "scriptDataEscapedEndTagNameState" 1121 "HTMLTokenizer.scriptDataEscapedEndTagNameState" 578 1 0 3 480 181 481 .none (.ref 482) (.ref 483) 484 1127,
 kF 493 "scriptDataDoubleEscapeStartState" "HTMLTokenizer.scriptDataDoubleEscapeStartState" (aM 21 33) .none "html5lib._tokenizer" 827 492,
 kC 492 "scriptDataDoubleEscapeStartState" 1130 "HTMLTokenizer.scriptDataDoubleEscapeStartState" 599 1 0 3 487 181 488 .none (.ref 489) (.ref 490) 491 1135,
 kF 500 "scriptDataDoubleEscapedState" "HTMLTokenizer.scriptDataDoubleEscapedState" (aM 21 34) .none "html5lib._tokenizer" 827 499,
 kC 499 "scriptDataDoubleEscapedState" 1138 "HTMLTokenizer.scriptDataDoubleEscapedState" 615 1 0 3 494 181 495 .none (.ref 496) (.ref 497) 498 1143,
 kF 507 "scriptDataDoubleEscapedDashState" "HTMLTokenizer.scriptDataDoubleEscapedDashState" (aM 21 35) .none "html5lib._tokenizer" 827 506,
 kC 506 "scriptDataDoubleEscapedDashState" 1146 "HTMLTokenizer.scriptDataDoubleEscapedDashState" 633 1 0 3 501 181 502 .none (.ref 503) (.ref 504) 505 1151,
 kF 514 "scriptDataDoubleEscapedDashDashState" "HTMLTokenizer.scriptDataDoubleEscapedDashDashState" (aM 21 36) .none "html5lib._tokenizer" 827 513,
 kC 513 "scriptDataDoubleEscapedDashDashState" 1154 "HTMLTokenizer.scriptDataDoubleEscapedDashDashState" 653 1 0 3 508 181 509 .none (.ref 510) (.ref 511) 512 1159,
 kF 521 "scriptDataDoubleEscapedLessThanSignState" "HTMLTokenizer.scriptDataDoubleEscapedLessThanSignState" (aM 21 37) .none "html5lib._tokenizer" 827 520,
 kC 520 "scriptDataDoubleEscapedLessThanSignState" 1162 "HTMLTokenizer.scriptDataDoubleEscapedLessThanSignState" 675 1 0 3 515 181 516 .none (.ref 517) (.ref 518) 519 1167,
 kF 528 "scriptDataDoubleEscapeEndState" "HTMLTokenizer.scriptDataDoubleEscapeEndState" (aM 21 38) .none "html5lib._tokenizer" 827 527,
 kC 527 "scriptDataDoubleEscapeEndState" 1170 "HTMLTokenizer.scriptDataDoubleEscapeEndState" 686 1 0 3 522 181 523 .none (.ref 524) (.ref 525) 526 1175,
 kF 535 "beforeAttributeNameState" "HTMLTokenizer.beforeAttributeNameState" (aM 21 39) .none "html5lib._tokenizer" 827 534,
 kC 534 "beforeAttributeNameState" 1178 "HTMLTokenizer.beforeAttributeNameState" 702 1 0 3 529 181 530 .none (.ref 531) (.ref 532) 533 1183,
 kF 542 "attributeNameState" "HTMLTokenizer.attributeNameState" (aM 21 40) .none "html5lib._tokenizer" 827 541,
 kC 541 "attributeNameState" 1186 "HTMLTokenizer.attributeNameState" 729 1 0 3 536 181 537 .none (.ref 538) (.ref 539) 540 1195,
 kF 591 "selfClosingStartTagState" "HTMLTokenizer.selfClosingStartTagState" (aM 21 47) .none "html5lib._tokenizer" 827 590,
 kC 590 "selfClosingStartTagState" 1246 "HTMLTokenizer.selfClosingStartTagState" 898 1 0 3 585 181 586 .none (.ref 587) (.ref 588) 589 1251,
 (762,⟨(.type "type"),none,(.cls ⟨"HTMLTokenizer",[(.type "object")],[(.ref 762),(.type "object")],761,"HTMLTokenizer",true,[],[],false,none,false⟩),[some (.ref 247),none,some (.str "HTMLTokenizer" 844),some (.str "HTMLTokenizer" 852),some (.builtin "object.__new__"),some (.bool true)].toArray⟩),
 (761,⟨(.type "dict"),none,(.dict [kE P "__module__" 851 (.str "html5lib._tokenizer" 827),kE P "__firstlineno__" 855 (.int (182) 854),kR P "__init__" 864 261,kR P "__iter__" 871 268,kR P "consumeNumberEntity" 886 275,kR P "consumeEntity" 901 283,kR P "processEntityInAttribute" 909 290,kR P "emitCurrentToken" 919 297,kR P "dataState" 928 304,kR P "entityDataState" 935 311,kR P "rcdataState" 942 318,kR P "characterReferenceInRcdata" 949 325,kR P "rawtextState" 956 332,kR P "scriptDataState" 965 339,kR P "plaintextState" 972 346,kR P "tagOpenState" 980 353,kR P "closeTagOpenState" 988 360,kR P "tagNameState" 996 367,kR P "rcdataLessThanSignState" 1003 374,kR P "rcdataEndTagOpenState" 1010 381,kR P "rcdataEndTagNameState" 1017 388,kR P "rawtextLessThanSignState" 1024 395,kR P "rawtextEndTagOpenState" 1031 402,kR P "rawtextEndTagNameState" 1038 409,kR P "scriptDataLessThanSignState" 1046 416,kR P "scriptDataEndTagOpenState" 1054 423,kR P "scriptDataEndTagNameState" 1063 430,kR P "scriptDataEscapeStartState" 1071 437,kR P "scriptDataEscapeStartDashState" 1079 444,kR P "scriptDataEscapedState" 1088 451,kR P "scriptDataEscapedDashState" 1096 458,kR P "scriptDataEscapedDashDashState" 1104 465,kR P "scriptDataEscapedLessThanSignState" 1112 472,kR P "scriptDataEscapedEndTagOpenState" 1120 479,kR P "scriptDataEscapedEndTagNameState" 1129 486,kR P "scriptDataDoubleEscapeStartState" 1137 493,kR P "scriptDataDoubleEscapedState" 1145 500,kR P "scriptDataDoubleEscapedDashState" 1153 507,kR P "scriptDataDoubleEscapedDashDashState" 1161 514,kR P "scriptDataDoubleEscapedLessThanSignState" 1169 521,kR P "scriptDataDoubleEscapeEndState" 1177 528,kR P "beforeAttributeNameState" 1185 535,kR P "attributeNameState" 1197 542,kR P "afterAttributeNameState" 1205 549,kR P "beforeAttributeValueState" 1213 556,kR P "attributeValueDoubleQuotedState" 1221 563,kR P "attributeValueSingleQuotedState" 1229 570,kR P "attributeValueUnQuotedState" 1237 577,kR P "afterAttributeValueState" 1245 584,kR P "selfClosingStartTagState" 1253 591,kR P "bogusCommentState" 1261 598,kR P "markupDeclarationOpenState" 1271 605,kR P "commentStartState" 1279 612,kR P "commentStartDashState" 1287 619,kR P "commentState" 1295 626,kR P "commentEndDashState" 1303 633,kR P "commentEndState" 1311 640,kR P "commentEndBangState" 1319 647,kR P "doctypeState" 1327 654,kR P "beforeDoctypeNameState" 1335 661,kR P "doctypeNameState" 1343 668,kR P "afterDoctypeNameState" 1353 675,kR P "afterDoctypePublicKeywordState" 1361 682,kR P "beforeDoctypePublicIdentifierState" 1369 689,kR P "doctypePublicIdentifierDoubleQuotedState" 1377 696,kR P "doctypePublicIdentifierSingleQuotedState" 1385 703,kR P "afterDoctypePublicIdentifierState" 1393 710,kR P "betweenDoctypePublicAndSystemIdentifiersState" 1401 717,kR P "afterDoctypeSystemKeywordState" 1409 724,kR P "beforeDoctypeSystemIdentifierState" 1417 731,kR P "doctypeSystemIdentifierDoubleQuotedState" 1425 738,kR P "doctypeSystemIdentifierSingleQuotedState" 1433 745,kR P "afterDoctypeSystemIdentifierState" 1441 752,kR P "bogusDoctypeState" 1449 759,kR P "__static_attributes__" 1459 760,kR P "__dict__" 1461 763,kR P "__weakref__" 1463 764,kE P "__doc__" 1464 .none].toArray 4),[].toArray⟩),
 kF 773 "_law_HEADS" "_law_HEADS" (di 23) .none "law_te0041_02" 1467 772,
 kC 772 "_law_HEADS" 1469 "_law_HEADS" 1417 0 0 3 767 181 768 .none (.ref 769) (.ref 770) 771 1472,
 kF 782 "_law_CUTS" "_law_CUTS" (di 26) .none "law_te0041_02" 1467 781,
 kC 781 "_law_CUTS" 1502 "_law_CUTS" 1421 0 0 3 776 181 777 .none (.ref 778) (.ref 779) 780 1505,
 kF 787 "_law_small" "_law_small" (di 27) .none "law_te0041_02" 1467 786,
 kC 786 "_law_small" 1508 "_law_small" 1423 1 0 3 783 181 784 .none .none .none 785 1511,
 kF 794 "_law_say" "_law_say" (di 28) .none "law_te0041_02" 1467 793,
 kC 793 "_law_say" 1514 "_law_say" 1425 2 0 3 788 181 789 .none (.ref 790) (.ref 791) 792 1519,
 kF 801 "_law_body" "_law_body" (di 29) .none "law_te0041_02" 1467 800,
 kC 800 "_law_body" 1522 "_law_body" 1430 2 0 3 795 181 796 .none (.ref 797) (.ref 798) 799 1529,
 kF 808 "_law_turns" "_law_turns" (di 30) .none "law_te0041_02" 1467 807,
 kC 807 "_law_turns" 1532 "_law_turns" 1436 1 0 3 802 181 803 .none (.ref 804) (.ref 805) 806 1543,
 kF 813 "_law_due" "_law_due" (di 31) .none "law_te0041_02" 1467 812,
 kC 812 "_law_due" 1546 "_law_due" 1464 5 0 3 809 181 810 .none .none .none 811 1549,
 kF 820 "_law_run" "_law_run" (di 32) .none "law_te0041_02" 1467 819,
 kC 819 "_law_run" 1552 "_law_run" 1485 2 0 3 814 181 815 .none (.ref 816) (.ref 817) 818 1561,
 kF 825 "law" "law" (di 33) .none "law_te0041_02" 1467 824,
 kC 824 "law" 1564 "law" 1503 1 0 3 821 181 822 .none .none .none 823 1567,
 (22,⟨(.type "tuple"),none,(.seq [(.str "\t" 197),(.str "\n" 198),(.str "\x0c" 199),(.str " " 200),(.str "\x0d" 201)].toArray 0),[].toArray⟩),
 (27,⟨(.type "tuple"),none,(.seq [(.str "a" 204),(.str "b" 205),(.str "c" 206),(.str "d" 207),(.str "e" 208),(.str "f" 209),(.str "g" 210),(.str "h" 211),(.str "i" 212),(.str "j" 213),(.str "k" 214),(.str "l" 215),(.str "m" 216),(.str "n" 217),(.str "o" 218),(.str "p" 219),(.str "q" 220),(.str "r" 221),(.str "s" 222),(.str "t" 223),(.str "u" 224),(.str "v" 225),(.str "w" 226),(.str "x" 227),(.str "y" 228),(.str "z" 229),(.str "A" 230),(.str "B" 231),(.str "C" 232),(.str "D" 233),(.str "E" 234),(.str "F" 235),(.str "G" 236),(.str "H" 237),(.str "I" 238),(.str "J" 239),(.str "K" 240),(.str "L" 241),(.str "M" 242),(.str "N" 243),(.str "O" 244),(.str "P" 245),(.str "Q" 246),(.str "R" 247),(.str "S" 248),(.str "T" 249),(.str "U" 250),(.str "V" 251),(.str "W" 252),(.str "X" 253),(.str "Y" 254),(.str "Z" 255)].toArray 0),[].toArray⟩),
 (48,⟨(.type "dict"),none,(.dict [kE P "Doctype" 532 (.int (0) 533),kE P "Characters" 534 (.int (1) 535),kE P "SpaceCharacters" 536 (.int (2) 537),kE P "StartTag" 538 (.int (3) 539),kE P "EndTag" 540 (.int (4) 541),kE P "EmptyTag" 542 (.int (5) 543),kE P "Comment" 544 (.int (6) 545),kE P "ParseError" 546 (.int (7) 547)].toArray 8),[].toArray⟩),
 (49,⟨(.type "tuple"),none,(.seq [(.int (3) 539),(.int (4) 541),(.int (5) 543)].toArray 0),[].toArray⟩),
 (774,⟨(.type "list"),none,(.seq [(.str "<!--" 1475),(.str "-->" 1476),(.str "<script>" 1477),(.str "</script>" 1478),(.str "</SCRIPT/>" 1479),(.str "</Script >" 1480),(.str "</script\nB>" 1481),(.str "</scrip" 1482),(.str "</" 1483),(.str "x>y" 1484),(.str "<" 1485),(.str "<!-" 1486),(.str "script>" 1487),(.str "--" 1488),(.str "\x00" 1489),(.str "a b\n" 1490),(.str "<SCRIPT\n" 1491),(.str "</scripts>" 1492),(.str "->" 1493),(.str "<script/" 1494)].toArray 0),[].toArray⟩),
 (775,⟨(.type "tuple"),none,(.seq [(.str " " 1496),(.str "\t" 1497),(.str "\n" 1498),(.str "/" 1499),(.str ">" 1500)].toArray 0),[].toArray⟩)]
end
section
set_option maxHeartbeats 0
set_option backward.match.sparseCases true
theorem E5(t:Thread):(endAt 0 t).isSome=through t:=by
 obtain⟨cur,code,pos,st⟩:=t
 cases st with
 |cons a b=>rfl
 |nil=>cases cur with
  |pure fin=>cases fin<;>rfl
  |_=>rfl
theorem E6{tb:String->Option Builtin}{p:Program}{w:World}{U:Nat}{ann:Option Value}{n:Nat}:∀{s s':Shared} {t:Thread} {f:Flow} {c:Code} {q:Pos},
 segRun tb p w U ann 0 n s t=some (f,s',c,q)->topRun tb p w U ann n s t=some s':=by
 induction n with
 |zero=>intro s s' t f c q h;cases h
 |succ n ih=>
  intro s s' t f c q h
  have ht:=E5 t
  unfold segRun at h
  unfold topRun
  cases he:endAt 0 t with
  |some x=>
   rw[he]at h ht
   rw[<-ht]
   cases h;rfl
  |none=>
   rw[he]at h ht
   rw[<-ht]
   cases hk:stepOk U ann t with
   |false=>rw[hk]at h;cases h
   |true=>
    rw[hk]at h
    cases hs:step (denote tb) p w s t with
    |halt o V=>rw[hs]at h;cases h
    |go V W=>rw[hs]at h;exact ih h
noncomputable def vJ(P:Params):BT:=((((((((((BT.nil.ins 0 (boot_o_0 P)).ins 1 (boot_o_1 P)).ins 2 (boot_o_2 P)).ins 3 (boot_o_3 P)).ins 4 (boot_o_4 P)).ins 5 (boot_o_5 P)).ins 6 (boot_o_6 P)).ins 7 (boot_o_7 P)).ins 8 (boot_o_8 P)).ins 9 (boot_o_9 P)).ins 10 (boot_o_10 P)
noncomputable def Dl(P:Params)(os:OsState):SharedT:=⟨vJ P,11,(boot_heap P).life,Array.mk [],boot_drawn,boot_toks,os⟩
theorem boot_abs(P:Params):absHeap (vJ P) 11 (boot_heap P).life=boot_heap P:=by kernel_rfl
noncomputable def qv:Program:={pw with main:={pw.main with body:=pw.main.body.drop 33}}
noncomputable def jU:List Str:=pw.boundNames.filter (λn=>n !=("law":Str))
noncomputable def oV(as:List Addr)(P:Params)(S:SharedT):=
 ((staticsOk (importedModules pw.main.body) (boot_heap P) S.abs.heap&&namesBound pw S.abs.heap&&gensDone S.abs&&laidKept (boot_heap P) S.abs.heap,
  PySem.W.Fast.tw4187177175401517315 qv jU (importedModules pw.main.body) (λ_=>true) true S.abs),as.map S.tree.get,S.n)
noncomputable def o_(w:World)(os:OsState):=PySem.W.Fast.tw10110043849684766642 PySem.W.Fast.tw14364793385576792824 pw w 11 (some (.ref 6)) 0 9000 (Dl w.params os) (topStub pw)
theorem O8(w:World):(λos=>(o_ (w.withFollow "special-get-raises" false) os).map (λr=>oV fZ w.params r.2.1))=λos=>some ((true,openGood qv jU),(KL w.params).map (λp=>some p.2),826):=by kernel_rfl
theorem O9(w:World):(λos=>(o_ (w.withFollow "special-get-raises" true) os).map (λr=>oV fZ w.params r.2.1))=λos=>some ((true,openGood qv jU),(KL w.params).map (λp=>some p.2),826):=by kernel_rfl
theorem Rt(w:World):(λos=>(o_ w os).map (λr=>oV fZ w.params r.2.1))=λos=>some ((true,openGood qv jU),(KL w.params).map (λp=>some p.2),826):=
 byRow2 "special-get-raises" (P:=λw=>(λos=>(o_ w os).map (λr=>oV fZ w.params r.2.1))=λos=>some ((true,openGood qv jU),(KL w.params).map (λp=>some p.2),826))
  O8 O9 w
end
section
set_option maxHeartbeats 0
set_option backward.match.sparseCases true
abbrev bS:OpenLaw:=PySem.Challenge.rw_te0041_02
theorem a1:sreFenced pw.main=true:=by rw[PySem.W.Fast.te11788848310118352699];kernel_rfl
theorem a2:((moduleNames pw.main.body).isEmpty||lookedIntoSs (moduleNames pw.main.body) pw.main.body)=true:=by kernel_rfl
theorem a3:namesResolve pw=true:=by rw[PySem.W.Fast.te8377067652309620493];kernel_rfl
theorem a4:(pw.boundNames.all λn=> !worldNames.contains n)=true:=by kernel_rfl
theorem a5:noRoadLSs {strict:= !(importedModules pw.main.body).all cThrough.contains,foot:=none,bare:=(["vars","dir","locals"]:List Str).filter (readsOut pw pw.main.body)} pw.main.body=true:=by
 rw[PySem.W.Fast.te8326940854005059898,PySem.W.Fast.te13343964577679436407];kernel_rfl
theorem a6:(namesMeet pw pw.main.body λ_ n=>attrL n)=true:=by
 rw[PySem.W.Fast.te17119622794617984870,PySem.W.Fast.te17868728402115742887];kernel_rfl
theorem HM:bS.row.wellSaid=true:=by
 unfold OpenRow.wellSaid OpenRow.partSaid looksOpen
 simp only[Bool.and_eq_true,and_assoc]
 exact⟨a1,a2,a3,a4,a5,a6,by kernel_rfl,by kernel_rfl,by kernel_rfl,by kernel_rfl,by kernel_rfl,by kernel_rfl,by kernel_rfl,by kernel_rfl,by kernel_rfl,by kernel_rfl,by kernel_rfl,by kernel_rfl,by kernel_rfl,by kernel_rfl,by kernel_rfl⟩
theorem b3:bS.footing.all footLine=true:=by rw[PySem.W.Fast.te10501279942588096481];kernel_rfl
theorem b4:noClassBlock bS.prog bS.footing=true:=by rw[PySem.W.Fast.te8179353310426384613];kernel_rfl
theorem b7:noRoadLSs {strict:=true,foot:=some bS.bound',writes:=bS.writes,may:=bS.may} bS.footing=true:=by rw[PySem.W.Fast.te8326940854005059898];kernel_rfl
theorem b8:defStands bS.about bS.above=true:=by rw[PySem.W.Fast.te9558739934217749035];kernel_rfl
theorem b9:bS.namesIt=true:=by rw[PySem.W.Fast.te16286561074155671207];kernel_rfl
theorem Tk:(bS.bound'.all λn=> !builtinNamed n||bS.about==[n]|| !bS.reads n)=true:=by rw[PySem.W.Fast.named_eq];kernel_rfl
theorem Tl:(namesMeet bS.prog bS.footing λsc n=>
 (!(["type","isinstance","issubclass","getattr","hasattr"]:List Str).contains n||sc.names.lookup n==some .globalImplicit)&&
 (bS.may !=some n||sc.kind== .module||sc.names.lookup n==some .globalImplicit))=true:=by rw[PySem.W.Fast.te17119622794617984870];kernel_rfl
theorem Tm:(namesMeet bS.prog bS.above λ_ n=> !bS.own.contains n)=true:=by rw[PySem.W.Fast.te17119622794617984870];kernel_rfl
theorem Tn:(namesMeet bS.prog bS.footing λsc n=>sc.kind== .module||sc.names.lookup n !=some .globalExplicit)=true:=by rw[PySem.W.Fast.te17119622794617984870];kernel_rfl
theorem Ru:bS.wellSaid=true:=by
 unfold OpenLaw.wellSaid
 simp only[Bool.and_eq_true,and_assoc]
 exact⟨HM,by kernel_rfl,b3,b4,by kernel_rfl,by kernel_rfl,b7,b8,b9,by kernel_rfl,Tk,by kernel_rfl,by kernel_rfl,Tl,by kernel_rfl,by kernel_rfl,by rw[PySem.W.Fast.named_eq];kernel_rfl,Tm,Tn⟩
end
section
set_option maxHeartbeats 0
set_option backward.match.sparseCases true
noncomputable def pa(as:List Addr)(s:Shared):List (Option Obj)×Nat:=(as.map s.heap.get?,s.heap.objs.size)
noncomputable def pb(K:Params->List (Addr×Obj))(n:Nat)(w:World):List (Option Obj)×Nat:=((K w.params).map λp=>some p.2,n)
theorem Ey{o:Obj}(h:o.isFreed=false):alive o=some o:=by
 obtain⟨c,d,U,sl⟩:=o
 cases U<;>first|rfl|(simp[Obj.isFreed]at h)
theorem A9{as:List Addr}{K:List (Addr×Obj)}{S:SharedT}:∀(l:List Addr) (k:List (Addr×Obj)),l.map S.tree.get=k.map (λp=>some p.2)->(∀a∈l,a<S.n)->(∀p∈k,p.2.isFreed=false)->
 l.map S.abs.heap.get?=k.map (λp=>some p.2)
 |[],[],_,_,_=>rfl
 |[],_::_,h,_,_=>by cases h
 |_::_,[],h,_,_=>by cases h
 |a::l,p::k,h,hl,hk=>by
  simp only[List.map_cons,List.cons.injEq]at h⊢
  refine⟨?_,A9 (as:=as) (K:=K) l k h.2 (λb hb=>hl b (.tail _ hb)) λq U=>hk q (.tail _ U)⟩
  show(absHeap S.tree S.n S.life).get? a=some p.2
  rw[abs_get (hl a (.head _)) h.1,Ey (hk p (.head _))]
theorem MI:@segRunT=PySem.W.Fast.tw10110043849684766642:=PySem.W.Fast.te10110043849684766642
theorem MJ:treeTable=PySem.W.Fast.tw14364793385576792824:=PySem.W.Fast.te14364793385576792824
theorem Kx:@openSeen=PySem.W.Fast.tw4187177175401517315:=PySem.W.Fast.te4187177175401517315
theorem Ky:opening pw=plainProg pw.main.scope.names:=by kernel_rfl
theorem HN(s:Shared):fenceModules? pw s=some s:=by kernel_rfl
theorem FB(P:Params):((boot_heap P).isNs mainGlobals&&(Array.mk []:Array GenState).size==0,(boot_heap P).objs.size,(boot_heap P).nsMap mainGlobals "__annotations__")=(true,11,some (.ref 6)):=by kernel_rfl
theorem left:LeftO pw qv jU (λ_=>true) (pa fZ) (pb KL 826) 9000 true:=λw=>by
 obtain⟨⟨h,gs,d,k,os⟩,e,W⟩:=Option.map_eq_some_iff.mp (boot_open (p:=pw) (N:=9000) Ky (by decide) HN w)
 obtain⟨rfl,rfl,rfl,rfl⟩:h=boot_heap w.params/\gs=Array.mk []/\d=boot_drawn/\k=boot_toks:=by simpa using W
 have r:=congrFun (Rt w) os
 obtain⟨⟨f,S,c,q⟩,e1,e2⟩:=Option.map_eq_some_iff.mp r
 unfold o_ at e1
 rw[<-MI,<-MJ]at e1
 have t:=E6 (segRun_of e1)
 have hS:(Dl w.params os).abs=⟨boot_heap w.params,Array.mk [],boot_drawn,boot_toks,os⟩:=by
  show(⟨absHeap (vJ w.params) 11 (boot_heap w.params).life,_,_,_,_⟩:Shared)=_
  rw[boot_abs]
  rfl
 rw[hS]at t
 simp only[oV,Prod.mk.injEq]at e2
 obtain⟨⟨X,U⟩,Y,V⟩:=e2
 rw[<-Kx]at U
 obtain⟨z1,Z,z3⟩:_/\_/\_:=by simpa only[Prod.mk.injEq]using FB w.params
 have J:topFrom treeTable pw w 9000 ⟨boot_heap w.params,Array.mk [],boot_drawn,boot_toks,os⟩=some S.abs:=by
  unfold topFrom
  dsimp only
  rw[z1,Z,z3,t]
  show(match staticsOk (importedModules pw.main.body) (boot_heap w.params) S.abs.heap&&namesBound pw S.abs.heap&&gensDone S.abs&&laidKept (boot_heap w.params) S.abs.heap with|true=>_|false=>_)=_
  rw[X]
 unfold openEnds
 rw[e]
 show(topFrom treeTable pw w 9000 _).map _=_
 rw[J]
 refine congrArg some (Prod.ext U ?_)
 show(fZ.map S.abs.heap.get?,S.abs.heap.objs.size)=(_,_)
 refine Prod.ext ?_ ?_
 ·refine A9 (as:=[]) (K:=[]) fZ (KL w.params) Y (λa ha=> ?_) (λp hp=> ?_)
  ·rw[V];exact of_decide_eq_true (List.all_eq_true.mp (show(fZ.all λa=>decide (a<826))=true by decide) a ha)
  ·have:((KL w.params).all λp=> !p.2.isFreed)=true:=by kernel_rfl
   have:=List.all_eq_true.mp this p hp
   simpa using this
 ·show(absHeap S.tree S.n S.life).objs.size=826
  rw[absHeap_size,V]
end
section
set_option maxHeartbeats 0
set_option backward.match.sparseCases true
noncomputable def j0:DefRec:=match pw.main.body.drop 33 with
 |[.FunctionDef name params body _ _ _ scope _ _ pos]=>⟨name,params,body,scope,pos⟩
 |_=>⟨Str.empty,⟨[],[],none,[],[],none,[]⟩,[],default,⟨0,0,0,0⟩⟩
theorem Kz:defOf qv ("law":Str)=some (j0,[]):=by kernel_rfl
theorem KA:pw.theDef ("law":Str)=some (j0.params,j0.body,j0.scope):=by kernel_rfl
theorem MK:kwWritten? j0.params.kwonlyargs j0.params.kw_defaults=some []:=by kernel_rfl
theorem Gb:(chainsOk qv&&opensWell bS.row.toRowW.prog&&(frees bS.row.toRowW&&bS.row.toRowW.within.isEmpty))=true:=by kernel_rfl
theorem HO:bS.row.toRowW.prog.bare:=⟨rfl,rfl,rfl,rfl,rfl,by decide+kernel⟩
theorem promised:bS.row.toRowW.promised:=by
 w_witness2
theorem head(call:WalkX qv jU (λ_ _=>True) (pa fZ) (pb KL 826) bS.row.toRowW j0 [] (λf vs=>PySem.call f vs)):bS.Holds:=by
 refine holds_law Ru λU=> ?_
 exact holds_openX (q:=qv) (loose:=jU) (Xt:=λ_=>true) (XP:=λ_ _=>True) (Yf:=pa fZ) (Ya:=pb KL 826) (N:=9000) left (λ_ _=>trivial) (λ_ _ _ _ _=>trivial)
  Kz KA MK (λ_ _=>recFacts_nil rfl) rfl U Gb HO promised call
end
noncomputable def key(s:Str):Nat:=s.cps.toList.foldl (λn c=>n*2097152+c+1) 0
noncomputable def sEq(a b:Str):Bool:=Nat.beq (key a) (key b)&&decide (a=b)
theorem sEq_iff{a b:Str}:sEq a b=true<->a=b:=by
 unfold sEq
 constructor
 ·intro h;exact of_decide_eq_true (Bool.and_eq_true_iff.mp h).2
 ·rintro rfl;simp
noncomputable def lk{α:Type}(n:Str):List (Str×α)->Option α
 |[]=>none
 |(x,a)::r=>match sEq n x with
  |true=>some a
  |false=>lk n r
noncomputable def cV{α:Type}(n:Str)(a:α):List (Str×α)->List (Str×α)
 |[]=>[(n,a)]
 |(x,b)::r=>match sEq n x with
  |true=>(x,a)::r
  |false=>(x,b)::cV n a r
theorem AE{α:Type}(n:Str)(a:α)(x:Str):∀es:List (Str×α),lk x (cV n a es)=if x=n then some a else lk x es
 |[]=>by
  show(match sEq x n with|true=>some a|false=>none)=_
  by_cases h:x=n
  ·rw[sEq_iff.mpr h];simp[h]
  ·rw[show sEq x n=false from by cases q:sEq x n<;>simp_all[sEq_iff]];simp[h,lk]
 |(y,b)::r=>by
  unfold cV
  cases q:sEq n y with
  |true=>
   have e:=sEq_iff.mp q
   subst e
   show(match sEq x n with|true=>some a|false=>lk x r)=if x=n then some a else(match sEq x n with|true=>some b|false=>lk x r)
   by_cases h:x=n
   ·rw[sEq_iff.mpr h];simp[h]
   ·rw[show sEq x n=false from by cases q:sEq x n<;>simp_all[sEq_iff]];simp[h]
  |false=>
   show(match sEq x y with|true=>some b|false=>lk x (cV n a r))=if x=n then some a else(match sEq x y with|true=>some b|false=>lk x r)
   rw[AE n a x r]
   by_cases h:x=n
   ·subst h;simp[q]
   ·simp[h]
theorem t_{α:Type}(n:Str)(a:α):∀es:List (Str×α),(cV n a es).map (·.1)=if n∈es.map (·.1)then es.map (·.1)else es.map (·.1)++[n]
 |[]=>rfl
 |(y,b)::r=>by
  unfold cV
  cases q:sEq n y with
  |true=>
   have e:=sEq_iff.mp q
   subst e
   simp
  |false=>
   have hy:n≠y:=λe=>by rw[e,sEq_iff.mpr rfl]at q;cases q
   have ih:=t_ n a r
   simp only[List.map_cons,ih,List.mem_cons,hy,false_or]
   split<;>rfl
theorem yD{α:Type}{n:Str}{a:α}{es:List (Str×α)}(h:(es.map (·.1)).Nodup):((cV n a es).map (·.1)).Nodup:=by
 rw[t_]
 split
 ·exact h
 ·rename_i q
  rw[List.nodup_append]
  exact⟨h,by simp,λx hx y hy e=>by simp at hy;subst hy;exact q (e▸hx)⟩
theorem ua{α:Type}(n:Str):∀es:List (Str×α),lk n es=es.lookup n
 |[]=>rfl
 |(x,a)::r=>by
  rw[List.lookup_cons]
  show(match sEq n x with|true=>some a|false=>lk n r)=_
  rw[ua n r]
  have:sEq n x=(n==x):=by
   by_cases h:n=x
   ·rw[sEq_iff.mpr h,beq_iff_eq.mpr h]
   ·rw[show sEq n x=false from by cases q:sEq n x<;>simp_all[sEq_iff],show(n==x)=false from beq_eq_false_iff_ne.mpr h]
  rw[this]
  cases (n==x)<;>rfl
inductive BI where
 |len|ord|chr|sum|lower|count|rfind|find|replace|split|join|startswith|append|pop
noncomputable def BI.id:BI->String
 | .len=>"len"| .ord=>"ord"| .chr=>"chr"| .sum=>"sum"| .lower=>"str.lower"| .count=>"str.count"| .rfind=>"str.rfind"
 | .find=>"str.find"| .replace=>"str.replace"| .split=>"str.split"| .join=>"str.join"| .startswith=>"str.startswith"| .append=>"list.append"| .pop=>"list.pop"
inductive BT where
 |range|int|dict|pQ
noncomputable def BT.id:BT->String
 | .range=>"range"| .int=>"int"| .dict=>"dict"| .pQ=>"enumerate"
inductive U where
 |none|bool (b:Bool)|int (i:Int)|str (x:Str)|bi (b:BI)|ty (n:BT)
 |top (a:Addr)|obj (l:Nat)|dat (d:PyData)|tup (xs:List U)|aU (f:Addr) (self:U)|cL (a b:Int)|ce
instance:Inhabited U:=⟨.none⟩
inductive AO where
 |list (xs:List U)|dict (es:List (Str×U))|inst (C:Addr) (dl:Nat)
 |frame (es:List (Str×U))|cell (v:Option U)|any|gone
noncomputable def AO.live:AO->Bool
 | .gone=>false
 |_=>true
mutual
inductive VR(F:Heap)(ρ:List Addr):U->Value->Prop
 |none:VR F ρ .none .none
 |bool {b:Bool}:VR F ρ (.bool b) (.bool b)
 |int {i:Int} {t:Tok}:VR F ρ (.int i) (.int i t)
 |str {x:Str} {t:Tok}:VR F ρ (.str x) (.str x t)
 |bi {i:BI}:VR F ρ (.bi i) (.builtin i.id)
 |ty {n:BT}:VR F ρ (.ty n) (.type n.id)
 |top {a:Addr}:VR F ρ (.top a) (.ref a)
 |obj {l:Nat} {a:Addr}:ρ[l]?=some a->VR F ρ (.obj l) (.ref a)
 |dat {d:PyData} {v:Value} {as:List Addr}:Reads F v d as->VR F ρ (.dat d) v
 |tup {xs:List U} {a:Addr} {vs:List Value} {n:Nat}:F.get? a=some {cls:= .type "tuple",data:= .seq vs.toArray n}->az F ρ xs vs->VR F ρ (.tup xs) (.ref a)
 |aU {f:Addr} {x:U} {a:Addr} {v:Value}:F.get? a=some (methodObj (.ref f) v)->VR F ρ x v->VR F ρ (.aU f x) (.ref a)
 |cL {x y:Int} {a:Addr} {t u v:Tok}:F.get? a=some {cls:= .type "range",data:= .fields #[.int x t, .int y u, .int 1 v]}->VR F ρ (.cL x y) (.ref a)
 |ce {v:Value}:VR F ρ .ce v
inductive az(F:Heap)(ρ:List Addr):List U->List Value->Prop
 |nil:az F ρ [] []
 |cons {x:U} {v:Value} {xs:List U} {vs:List Value}:VR F ρ x v->az F ρ xs vs->az F ρ (x::xs) (v::vs)
end
inductive bT(P:Params)(F:Heap)(ρ:List Addr):List (Str×U)->List DictEntry->Prop
 |nil:bT P F ρ [] []
 |cons {x:Str} {t:Tok} {av:U} {v:Value} {es:List (Str×U)} {ds:List DictEntry}:VR F ρ av v->bT P F ρ es ds->bT P F ρ ((x,av)::es) (⟨PyData.keyHash P x, .str x t,v⟩::ds)
noncomputable def iQ(F:Heap)(ρ:List Addr):Option U->Option Value->Prop
 |none,none=>True
 |some a,some v=>VR F ρ a v
 |_,_=>False
noncomputable def OR(P:Params)(F:Heap)(ρ:List Addr):AO->Obj->Prop
 | .list xs,c=>∃vs n,c=listOf vs.toArray n/\az F ρ xs vs
 | .dict es,c=>∃ds n,c=dictOf ds n/\bT P F ρ es ds/\(es.map (·.1)).Nodup
 | .inst C dl,c=>∃d,ρ[dl]?=some d/\c=instObj C d
 | .frame es,c=>∃ds n,c.data= .dict ds n/\StrKeys ds/\∀x,iQ F ρ (lk x es) (nsFind ds x)
 | .cell v,c=>∃U,c.data= .cell U/\iQ F ρ v U
 | .any,_=>True
 | .gone,_=>True
structure Ext(F:Heap)(ρ:List Addr)(F':Heap)(af:List Addr):Prop where
 keep:∀b o,F.get? b=some o->F'.get? b=some o
 pre:∃t,af=ρ++t
theorem Ext.refl(F:Heap)(ρ:List Addr):Ext F ρ F ρ:=⟨λ_ _ e=>e,[],by simp⟩
theorem Ext.trans{F F' U:Heap}{ρ af V:List Addr}(x:Ext F ρ F' af)(y:Ext F' af U V):Ext F ρ U V:=by
 obtain⟨t,e⟩:=x.pre
 obtain⟨u,W⟩:=y.pre
 exact⟨λb o h=>y.keep b o (x.keep b o h),t++u,by rw[W,e,List.append_assoc]⟩
theorem Ext.get{F F':Heap}{ρ af:List Addr}(x:Ext F ρ F' af){l:Nat}{a:Addr}(e:ρ[l]?=some a):af[l]?=some a:=by
 obtain⟨t,rfl⟩:=x.pre
 exact List.getElem?_append_left (List.getElem?_eq_some_iff.mp e).1▸e
theorem Ext.push(F:Heap)(ρ:List Addr)(a:Addr):Ext F ρ F (ρ++[a]):=⟨λ_ _ e=>e,[a],rfl⟩
section
variable{P:Params}{F F':Heap}{ρ af:List Addr}
theorem az.ind{m:List U->List Value->Prop}(n:m [] [])(c:∀{x:U} {v:Value} {xs:List U} {vs:List Value},VR F ρ x v->az F ρ xs vs->m xs vs->m (x::xs) (v::vs)){xs:List U}{vs:List Value}(h:az F ρ xs vs):m xs vs:=by
 refine az.rec (motive_1:=λ_ _ _=>True) (motive_2:=λxs vs _=>m xs vs) ?_ ?_ ?_ ?_ ?_ ?_ ?_ ?_ ?_ ?_ ?_ ?_ ?_ ?_ ?_ h<;>intros<;>first|trivial|exact n|exact c ‹_› ‹_› ‹_›
theorem VR.mono(x:Ext F ρ F' af){a:U}{v:Value}(h:VR F ρ a v):VR F' af a v:=
 VR.rec (motive_1:=λa v _=>VR F' af a v) (motive_2:=λxs vs _=>az F' af xs vs) .none .bool .int .str .bi .ty .top (λe=> .obj (x.get e)) (λh=> .dat (Reads.keeps x.keep h)) (λe _ r=> .tup (x.keep _ _ e) r) (λe _ r=> .aU (x.keep _ _ e) r)
  (λe=> .cL (x.keep _ _ e)) .ce .nil (λ_ _ h r=> .cons h r) h
theorem az.mono(x:Ext F ρ F' af){xs:List U}{vs:List Value}(h:az F ρ xs vs):az F' af xs vs:=
 h.ind .nil λh _ r=> .cons (h.mono x) r
theorem bT.mono(x:Ext F ρ F' af){es:List (Str×U)}{ds:List DictEntry}(h:bT P F ρ es ds):bT P F' af es ds:=by
 induction h with
 |nil=>exact .nil
 |cons h _ r=>exact .cons (h.mono x) r
theorem iQ.mono(x:Ext F ρ F' af){a:Option U}{v:Option Value}(h:iQ F ρ a v):iQ F' af a v:=by
 cases a<;>cases v<;>first|exact h|exact VR.mono x h
theorem OR.mono(x:Ext F ρ F' af){o:AO}{c:Obj}(h:OR P F ρ o c):OR P F' af o c:=by
 cases o with
 |list xs=>obtain⟨vs,n,e,r⟩:=h;exact⟨vs,n,e,r.mono x⟩
 |dict es=>obtain⟨ds,n,e,r,k⟩:=h;exact⟨ds,n,e,r.mono x,k⟩
 |inst C dl=>obtain⟨d,e,r⟩:=h;exact⟨d,x.get e,r⟩
 |frame es=>obtain⟨ds,n,e,k,r⟩:=h;exact⟨ds,n,e,k,λy=>(r y).mono x⟩
 |cell v=>obtain⟨U,e,r⟩:=h;exact⟨U,e,r.mono x⟩
 |any=>trivial
 |gone=>trivial
theorem az.length{xs:List U}{vs:List Value}(h:az F ρ xs vs):vs.length=xs.length:=
 h.ind (m:=λxs vs=>vs.length=xs.length) rfl λ_ _ r=>congrArg Nat.succ r
theorem az.get{xs:List U}{vs:List Value}(h:az F ρ xs vs){i:Nat}{x:U}:xs[i]?=some x->∃v,vs[i]?=some v/\VR F ρ x v:=
 h.ind (m:=λxs vs=>∀i,xs[i]?=some x->∃v,vs[i]?=some v/\VR F ρ x v) (λi e=>by rw[List.getElem?_nil]at e;cases e) (λh _ r i e=>match i with
  |0=>⟨_,rfl,Option.some.inj e▸h⟩
  |i+1=>r i e) i
theorem az.append{xs ys:List U}{vs ws:List Value}(h:az F ρ xs vs)(h':az F ρ ys ws):az F ρ (xs++ys) (vs++ws):=
 h.ind (m:=λxs vs=>az F ρ (xs++ys) (vs++ws)) h' λh _ r=> .cons h r
theorem az.one{x:U}{v:Value}(h:VR F ρ x v):az F ρ [x] [v]:= .cons h .nil
theorem az.set{xs:List U}{vs:List Value}(h:az F ρ xs vs){x:U}{v:Value}(q:VR F ρ x v)(i:Nat):az F ρ (xs.set i x) (vs.set i v):=
 h.ind (m:=λxs vs=>∀i,az F ρ (xs.set i x) (vs.set i v)) (λ_=> .nil) (λh t r i=>match i with
  |0=> .cons q t
  |i+1=> .cons h (r i)) i
theorem az.drop{xs:List U}{vs:List Value}(h:az F ρ xs vs)(i:Nat):az F ρ (xs.drop i) (vs.drop i):=
 h.ind (m:=λxs vs=>∀i,az F ρ (xs.drop i) (vs.drop i)) (λi=>by rw[List.drop_nil,List.drop_nil];exact .nil) (λh t r i=>match i with
  |0=> .cons h t
  |i+1=>r i) i
theorem az.take{xs:List U}{vs:List Value}(h:az F ρ xs vs)(i:Nat):az F ρ (xs.take i) (vs.take i):=
 h.ind (m:=λxs vs=>∀i,az F ρ (xs.take i) (vs.take i)) (λi=>by rw[List.take_nil,List.take_nil];exact .nil) (λh t r i=>match i with
  |0=> .nil
  |i+1=> .cons h (r i)) i
end
set_option genInjectivity true in
inductive Ix where
 |o (l:Nat)|f (i:Nat)
noncomputable def cell(os:List AO)(fs:List AO):Ix->Option AO
 | .o l=>os[l]?
 | .f i=>fs[i]?
noncomputable def adr(ρ φ:List Addr):Ix->Option Addr
 | .o l=>ρ[l]?
 | .f i=>φ[i]?
structure Rel(P:Params)(F:Heap)(ρ φ:List Addr)(aq:List (Addr×Obj))(os:List AO)(fs:List AO)(h:Heap):Prop where
 keep:∀b o,F.get? b=some o->h.get? b=some o
 len:ρ.length=os.length
 eX:φ.length=fs.length
 at_:∀(i:Ix) (o:AO) (a:Addr),cell os fs i=some o->adr ρ φ i=some a->o.live=true->∃c,h.get? a=some c/\OR P F ρ o c
 new:∀(i:Ix) (o:AO) (a:Addr),cell os fs i=some o->adr ρ φ i=some a->o.live=true->F.get? a=none
 inj:∀(i j:Ix) (o o':AO) (a:Addr),cell os fs i=some o->cell os fs j=some o'->o.live=true->o'.live=true->adr ρ φ i=some a->adr ρ φ j=some a->i=j
 bz:∀p∈aq,h.get? p.1=some p.2
 hF:∀p∈aq,F.get? p.1=none
 hC:∀p∈aq,∀(i:Ix) (o:AO),cell os fs i=some o->o.live=true->adr ρ φ i≠some p.1
 hN:(aq.map (·.1)).Nodup
theorem je(h:Heap):h.get? h.objs.size=none:=by
 cases q:h.get? h.objs.size with
 |none=>rfl
 |some o=>exact absurd (Heap.lt_size q) (Nat.lt_irrefl _)
section
variable{P:Params}{F F':Heap}{ρ af φ:List Addr}{aq:List (Addr×Obj)}{os os':List AO}{fs dL:List AO}{h h':Heap}
theorem Rel.keeps(R:Rel P F ρ φ aq os fs h)(k:∀b o,h.get? b=some o->h'.get? b=some o):Rel P F ρ φ aq os fs h':=
 ⟨λb o e=>k _ _ (R.keep b o e),R.len,R.eX,λl o a e1 e2 hl=>let⟨c,V,h2⟩:=R.at_ l o a e1 e2 hl;⟨c,k _ _ V,h2⟩,R.new,R.inj,λp hp=>k _ _ (R.bz p hp),R.hF,R.hC,R.hN⟩
theorem Rel.Cw(R:Rel P F ρ φ aq os fs h)(X:Ext F ρ F af)(W:af.length=os'.length)(Y:n7.length=dL.length)(up:Ix->Ix)(Z:∀i j,up i=up j->i=j)
 (U:∀j o,cell os' dL j=some o->cell os fs (up j)=some o)(ha:∀j a,adr af n7 j=some a->adr ρ φ (up j)=some a):Rel P F af n7 aq os' dL h:=
 ⟨R.keep,W,Y,λi o a e1 e2 hl=>let⟨c,V,h2⟩:=R.at_ (up i) o a (U i o e1) (ha i a e2) hl;⟨c,V,h2.mono X⟩,λi o a e1 e2=>R.new (up i) o a (U i o e1) (ha i a e2),
  λi j o o' a e1 e2 V h2 J K=>Z _ _ (R.inj (up i) (up j) o o' a (U i o e1) (U j o' e2) V h2 (ha i a J) (ha j a K)),R.bz,R.hF,λp hp i o e1 e2 e3=>R.hC p hp (up i) o (U i o e1) e2 (ha i _ e3),R.hN⟩
inductive Sp(os fs:List AO)(ρ φ:List Addr)(up:Ix->Ix)(k:Ix)(o:AO)(b:Addr)(i:Ix)(o':AO)(a:Addr):Prop
 |old (j:Ix) (e1:cell os fs j=some o') (e2:adr ρ φ j=some a) (e:i=up j)
 |new (e:i=k) (e1:o'=o) (e2:a=b)
structure Fr(F:Heap)(ρ φ:List Addr)(aq:List (Addr×Obj))(os fs:List AO)(b:Addr):Prop where
 n:F.get? b=none
 old:∀(i:Ix) (o:AO),cell os fs i=some o->adr ρ φ i=some b->o.live=true->False
 aq:∀p∈aq,p.1≠b
theorem Rel.fresh(R:Rel P F ρ φ aq os fs h){b:Addr}(hn:h.get? b=none):Fr F ρ φ aq os fs b:=by
 refine⟨?_,λi o e1 e2 e3=> ?_,λp hp e=> ?_⟩
 ·cases q:F.get? b with
  |none=>rfl
  |some o=>rw[R.keep _ _ q]at hn;cases hn
 ·obtain⟨c,V,_⟩:=R.at_ _ _ _ e1 e2 e3
  rw[hn]at V;cases V
 ·have:=R.bz p hp
  rw[e,hn]at this;cases this
theorem Rel.add(R:Rel P F ρ φ aq os fs h){o:AO}{c:Obj}{b:Addr}(up:Ix->Ix)(k:Ix)(X:Ext F ρ F af)(L:af.length=os'.length)(N:n7.length=dL.length)
 (sp:∀i o' a,cell os' dL i=some o'->adr af n7 i=some a->Sp os fs ρ φ up k o b i o' a)(fr:Fr F ρ φ aq os fs b)(Y:∀b o,h.get? b=some o->h'.get? b=some o)(G:h'.get? b=some c)(ho:OR P F af o c):Rel P F af n7 aq os' dL h':=by
 refine⟨λb o e=>Y _ _ (R.keep b o e),L,N,λi o' a e1 e2 hl=> ?_,λi o' a e1 e2 hl=> ?_,λi E Z H a e1 e2 V h2 I J=> ?_,λp hp=>Y _ _ (R.bz p hp),R.hF,λp hp i Z e1 e2 e3=> ?_,R.hN⟩
 ·cases sp _ _ _ e1 e2 with
  |old j e1 e2 e=>obtain⟨D,V,h2⟩:=R.at_ j o' a e1 e2 hl;exact⟨D,Y _ _ V,h2.mono X⟩
  |new _ e1 e2=>exact⟨c,e2▸G,e1▸ho⟩
 ·cases sp _ _ _ e1 e2 with
  |old j e1 e2 e=>exact R.new j o' a e1 e2 hl
  |new _ e1 e2=>exact e2▸fr.n
 ·cases sp _ _ _ e1 I with
  |old j a1 U e=>cases sp _ _ _ e2 J with
   |old K a2 b2 W=>rw[e,W,R.inj j K Z H a a1 a2 V h2 U b2]
   |new _ _ q=>exact(fr.old _ _ a1 (q▸U) V).elim
  |new e _ q=>cases sp _ _ _ e2 J with
   |old K a2 b2 W=>exact(fr.old _ _ a2 (q▸b2) h2).elim
   |new W _ _=>exact e.trans W.symm
 ·cases sp _ _ _ e1 e3 with
  |old j a1 U e=>exact R.hC p hp j Z a1 e2 U
  |new _ _ q=>exact fr.aq p hp q
theorem AF{α β:Type}{xs:List α}{ys:List β}{x x':α}{y y':β}(e:ys.length=xs.length){l:Nat}(h:(xs++[x])[l]?=some x')(h':(ys++[y])[l]?=some y'):(xs[l]?=some x'/\ys[l]?=some y')\/(l=xs.length/\x'=x/\y'=y):=by
 rcases Nat.lt_or_ge l xs.length with hl|hl
 ·rw[List.getElem?_append_left hl]at h
  rw[List.getElem?_append_left (e▸hl)]at h'
  exact .inl ⟨h,h'⟩
 ·obtain⟨m,rfl⟩:=Nat.exists_eq_add_of_le hl
  rw[List.getElem?_append_right hl,Nat.add_sub_cancel_left]at h
  rw[List.getElem?_append_right (e▸hl),e,Nat.add_sub_cancel_left]at h'
  cases m with
  |zero=>exact .inr ⟨rfl,(Option.some.inj h).symm,(Option.some.inj h').symm⟩
  |succ m=>cases h
theorem KB{o:AO}{b:Addr}(e:ρ.length=os.length):∀(i:Ix) (o':AO) (a:Addr),cell (os++[o]) fs i=some o'->adr (ρ++[b]) φ i=some a->Sp os fs ρ φ id (.o os.length) o b i o' a
 | .f i,o',a,e1,e2=> .old (.f i) e1 e2 rfl
 | .o l,o',a,e1,e2=>(AF e e1 e2).elim (λ⟨h,h'⟩=> .old (.o l) h h' rfl) λ⟨h,V,h2⟩=> .new (congrArg Ix.o h) V h2
noncomputable def nP:Ix->Ix
 | .o l=> .o l
 | .f n=> .f (n+1)
theorem KC:∀i j,nP i=nP j->i=j
 | .o _, .o _,e=>e
 | .f _, .f _,e=>congrArg Ix.f (Nat.succ.inj (Ix.f.inj e))
 | .o _, .f _,e=>nomatch e
 | .f _, .o _,e=>nomatch e
theorem AG{o:AO}{b:Addr}:∀(i:Ix) (o':AO) (a:Addr),cell os (o::fs) i=some o'->adr ρ (b::φ) i=some a->Sp os fs ρ φ nP (.f 0) o b i o' a
 | .o l,o',a,e1,e2=> .old (.o l) e1 e2 rfl
 | .f 0,o',a,e1,e2=> .new rfl (Option.some.inj e1).symm (Option.some.inj e2).symm
 | .f (i+1),o',a,e1,e2=> .old (.f i) e1 e2 rfl
theorem Rel.grow(R:Rel P F ρ φ aq os fs h){o:AO}{c:Obj}{b:Addr}(k:∀b o,h.get? b=some o->h'.get? b=some o)(hn:h.get? b=none)(U:h'.get? b=some c)(ho:OR P F (ρ++[b]) o c):Rel P F (ρ++[b]) φ aq (os++[o]) fs h':=
 R.add id (.o os.length) (Ext.push F ρ b) (by simp[R.len]) R.eX (KB R.len) (R.fresh hn) k U ho
theorem Rel.rM(R:Rel P F ρ φ aq os fs h){o:AO}{c:Obj}{b:Addr}(k:∀b o,h.get? b=some o->h'.get? b=some o)(hn:h.get? b=none)(U:h'.get? b=some c)(ho:OR P F ρ o c):Rel P F ρ (b::φ) aq os (o::fs) h':=
 R.add nP (.f 0) (Ext.refl F ρ) R.len (congrArg Nat.succ R.eX) AG (R.fresh hn) k U ho
theorem Rel.wf{o:AO}{b:Addr}(R:Rel P F ρ (b::φ) aq os (o::fs) h):Rel P F ρ φ aq os fs h:=
 R.Cw (Ext.refl F ρ) R.len (Nat.succ.inj R.eX) nP KC (λj o e=>by cases j<;>exact e) λj o e=>by cases j<;>exact e
theorem Rel.drop{p:Addr×Obj}(R:Rel P F ρ φ (p::aq) os fs h):Rel P F ρ φ aq os fs h:=
 ⟨R.keep,R.len,R.eX,R.at_,R.new,R.inj,λp hp=>R.bz p (.tail _ hp),λp hp=>R.hF p (.tail _ hp),λp hp=>R.hC p (.tail _ hp),(List.nodup_cons.mp R.hN).2⟩
theorem Rel.alloc(R:Rel P F ρ φ aq os fs h){o:AO}{c:Obj}(U:c.isFreed=false)(ho:OR P F (ρ++[h.objs.size]) o c):Rel P F (ρ++[h.objs.size]) φ aq (os++[o]) fs (h.push c):=
 R.grow (λb o e=>Heap.get?_push_of_some _ e) (je h) (Heap.get?_push_size _ U) ho
noncomputable def U7:Ix->Ix
 | .o l=> .o l
 | .f 0=> .f 1
 | .f 1=> .f 0
 | .f (n+2)=> .f (n+2)
theorem Rel.upd(R:Rel P F ρ φ aq os fs h){k:Ix}{o o':AO}{a:Addr}{Z:Obj}(e:cell os fs k=some o)(hl:o.live=true)(W:adr ρ φ k=some a)(hs:Heap.SameBut a h h')(H:h'.get? a=some Z)(ho:OR P F ρ o' Z)
 (I:os'.length=os.length)(D:dL.length=fs.length)(E:cell os' dL k=some o')(M:∀j,j≠k->cell os' dL j=cell os fs j):Rel P F ρ φ aq os' dL h':=by
 have split:∀{j:Ix} {q:AO},cell os' dL j=some q->(j=k/\q=o')\/(j≠k/\cell os fs j=some q):=by
  intro j q U
  by_cases hk:j=k
  ·subst hk
   rw[E]at U
   exact .inl ⟨rfl,(Option.some.inj U).symm⟩
  ·rw[M j hk]at U
   exact .inr ⟨hk,U⟩
 have ne:∀{j:Ix} {q:AO} {b:Addr},j≠k->cell os fs j=some q->q.live=true->adr ρ φ j=some b->b≠a:=λhk U hv hb O=>by
  subst O
  exact hk (R.inj _ _ _ _ _ U e hv hl hb W)
 have na:F.get? a=none:=R.new _ _ _ e W hl
 refine⟨λb B e1=> ?_,by rw[I,R.len],by rw[D,R.eX], ?_, ?_, ?_,λp hp=>(hs.2 p.1 (λq=>R.hC p hp k o e hl (by rw[q];exact W))).trans (R.bz p hp),R.hF,λp hp j q U hv hb=> ?_,R.hN⟩
 ·have:b≠a:=λq=>by subst q;rw[na]at e1;cases e1
  exact(hs.2 b this).trans (R.keep b B e1)
 ·intro j q b U hb hv
  rcases split U with⟨rfl,rfl⟩|⟨hk,U⟩
  ·obtain rfl:a=b:=by rw[W]at hb;exact Option.some.inj hb
   exact⟨Z,H,ho⟩
  ·obtain⟨c,V,h2⟩:=R.at_ j q b U hb hv
   exact⟨c,(hs.2 b (ne hk U hv hb)).trans V,h2⟩
 ·intro j q b U hb hv
  rcases split U with⟨rfl,rfl⟩|⟨hk,U⟩
  ·obtain rfl:a=b:=by rw[W]at hb;exact Option.some.inj hb
   exact na
  ·exact R.new j q b U hb hv
 ·intro j C q A b U X hv L hb Y
  rcases split U with⟨N,_⟩|⟨hk,U⟩
  ·rcases split X with⟨J,_⟩|⟨G,X⟩
   ·exact N.trans J.symm
   ·have K:b=a:=by rw[N,W]at hb;exact(Option.some.inj hb).symm
    exact absurd K (ne G X L Y)
  ·rcases split X with⟨J,_⟩|⟨G,X⟩
   ·have K:b=a:=by rw[J,W]at Y;exact(Option.some.inj Y).symm
    exact absurd K (ne hk U hv hb)
   ·exact R.inj j C q A b U X hv L hb Y
 ·rcases split U with⟨rfl,_⟩|⟨hk,U⟩
  ·exact R.hC p hp j o e hl hb
  ·exact R.hC p hp j q U hv hb
theorem Rel.update(R:Rel P F ρ φ aq os fs h){l:Nat}{o o':AO}{a:Addr}{U:Obj}(e:os[l]?=some o)(hl:o.live=true)(V:ρ[l]?=some a)(hs:Heap.SameBut a h h')(W:h'.get? a=some U)(ho:OR P F ρ o' U):
 Rel P F ρ φ aq (os.set l o') fs h':=by
 refine R.upd (k:= .o l) e hl V hs W ho (by simp) rfl (List.getElem?_set_self (List.getElem?_eq_some_iff.mp e).1) λj X=> ?_
 cases j with
 |f i=>rfl
 |o m=>exact List.getElem?_set_ne (λq=>X (by rw[q]))
theorem Rel.Cy{o o':AO}(R:Rel P F ρ φ aq os (o::fs) h)(hl:o.live=true){a:Addr}{U:Obj}(V:φ[0]?=some a)(hs:Heap.SameBut a h h')(W:h'.get? a=some U)(ho:OR P F ρ o' U):
 Rel P F ρ φ aq os (o'::fs) h':=by
 refine R.upd (k:= .f 0) (o:=o) rfl hl V hs W ho rfl rfl rfl λj X=> ?_
 cases j with
 |o m=>rfl
 |f i=>cases i with
  |zero=>exact absurd rfl X
  |succ i=>rfl
theorem Rel.HP(R:Rel P F ρ φ aq os fs h)(k:∀b o,F.get? b=some o->F'.get? b=some o)(U:∀b o,F'.get? b=some o->h.get? b=some o)
 (n:∀(i:Ix) (o:AO) (a:Addr),cell os fs i=some o->adr ρ φ i=some a->o.live=true->F'.get? a=none)(W:∀p∈aq,F'.get? p.1=none):Rel P F' ρ φ aq os fs h:=
 ⟨U,R.len,R.eX,λi o a e1 e2 hl=>let⟨c,V,h2⟩:=R.at_ i o a e1 e2 hl;⟨c,V,h2.mono ⟨k,[],by simp⟩⟩,n,R.inj,R.bz,W,R.hC,R.hN⟩
noncomputable def restOf(own:Addr->Prop)(h:Heap):Heap:=by
 classical exact{h with objs:=h.objs.mapIdx λi o=>if own i then{cls:= .none,data:= .freed}else o}
theorem ub{own:Addr->Prop}{a:Addr}(p:¬own a):(restOf own h).get? a=h.get? a:=by
 classical
 unfold restOf Heap.get?
 dsimp only
 rw[Array.getElem?_mapIdx]
 cases h.objs[a]?with
 |none=>rfl
 |some o=>dsimp only[Option.map_some];rw[if_neg p]
theorem tX{own:Addr->Prop}{a:Addr}(p:own a):(restOf own h).get? a=none:=by
 classical
 unfold restOf Heap.get?
 dsimp only
 rw[Array.getElem?_mapIdx]
 cases h.objs[a]?with
 |none=>rfl
 |some o=>dsimp only[Option.map_some];rw[if_pos p]
theorem Rel.freeze(R:Rel P F ρ φ aq os fs h):∃F',(∀b o,F.get? b=some o->F'.get? b=some o)/\(∀a c,h.get? a=some c->(∀(i:Ix) (o:AO),cell os fs i=some o->o.live=true->adr ρ φ i≠some a)->(∀p∈aq,p.1≠a)->F'.get? a=some c)/\Rel P F' ρ φ aq os fs h:=by
 let own:Addr->Prop:=λa=>(∃(i:Ix) (o:AO),cell os fs i=some o/\o.live=true/\adr ρ φ i=some a)\/∃p∈aq,p.1=a
 have kk:∀b o,F.get? b=some o->(restOf own h).get? b=some o:=λb o e=>by
  rw[ub (λq=>by
   rcases q with⟨i,o',c1,c2,c3⟩|⟨p,hp,rfl⟩
   ·rw[R.new i o' b c1 c3 c2]at e;cases e
   ·rw[R.hF p hp]at e;cases e)]
  exact R.keep b o e
 refine⟨restOf own h,kk,λa c U V W=>by
  rw[ub (λq=>by
   rcases q with⟨i,o',c1,c2,c3⟩|⟨p,hp,q⟩
   ·exact V i o' c1 c2 c3
   ·exact W p hp q)]
  exact U,R.HP kk (λb o e=> ?_) (λi o a e1 e2 hl=>tX (.inl ⟨i,o,e1,hl,e2⟩)) λp hp=>tX (.inr ⟨p,hp,rfl⟩)⟩
 by_cases p:own b
 ·rw[tX p]at e;cases e
 ·rw[ub p]at e;exact e
theorem Rel.fix(R:Rel P F ρ φ aq os fs h){c:Obj}(U:c.isFreed=false):∃F',(∀b o,F.get? b=some o->F'.get? b=some o)/\F'.get? h.objs.size=some c/\Rel P F' ρ φ aq os fs (h.push c):=by
 have W:Rel P F ρ φ aq os fs (h.push c):=R.keeps λb o e=>Heap.get?_push_of_some _ e
 obtain⟨F',k,n,Z⟩:=W.freeze
 refine⟨F',k,n _ _ (Heap.get?_push_size _ U) (λi o e1 e2 e3=> ?_) (λp hp e=> ?_),Z⟩
 ·obtain⟨X,V,_⟩:=R.at_ i o _ e1 e3 e2
  rw[je]at V;cases V
 ·have:=R.bz p hp
  rw[e,je]at this;cases this
theorem Rel.hide{b:Addr}{o:AO}{c:Obj}(R:Rel P F ρ (b::φ) aq os (o::fs) h)(hl:o.live=true)(V:h.get? b=some c):Rel P F ρ φ ((b,c)::aq) os fs h:=
 have Z:=R.wf
 {Z with
  bz:=λp hp=>(List.mem_cons.mp hp).elim (λe=>e▸V) (R.bz p)
  hF:=λp hp=>(List.mem_cons.mp hp).elim (λe=>e▸R.new (.f 0) o b rfl rfl hl) (R.hF p)
  hC:=λp hp i U e1 e2 e3=>(List.mem_cons.mp hp).elim (λe=>by
   subst e
   cases i with
   |o l=>exact nomatch R.inj (.o l) (.f 0) U o b e1 rfl e2 hl e3 rfl
   |f n=>exact nomatch R.inj (.f (n+1)) (.f 0) U o b e1 rfl e2 hl e3 rfl) λhp=>Z.hC p hp i U e1 e2 e3
  hN:=List.nodup_cons.mpr ⟨λq=>let⟨p,hp,e⟩:=List.mem_map.mp q;R.hC p hp (.f 0) o rfl hl (congrArg some e.symm),R.hN⟩}
theorem Rel.vj{b:Addr}{o:AO}{c:Obj}(R:Rel P F ρ φ ((b,c)::aq) os fs h)(ho:OR P F ρ o c):Rel P F ρ (b::φ) aq os (o::fs) h:=
 R.drop.add nP (.f 0) (Ext.refl F ρ) R.len (congrArg Nat.succ R.eX) AG ⟨R.hF _ (.head _),λi o e1 e2 e3=>R.hC _ (.head _) i o e1 e3 e2,λp hp e=>(List.nodup_cons.mp R.hN).1 (List.mem_map.mpr ⟨p,hp,e⟩)⟩ (λ_ _ e=>e) (R.bz _ (.head _)) ho
theorem Rel.ML(R:Rel P F ρ φ aq os fs h){c:Obj}(U:c.isFreed=false):Rel P F ρ φ ((h.objs.size,c)::aq) os fs (h.push c):=by
 exact(R.rM (o:= .any) (c:=c) (b:=h.objs.size) (h':=h.push c) (λb o e=>Heap.get?_push_of_some _ e) (je h) (Heap.get?_push_size _ U) trivial).hide rfl (Heap.get?_push_size _ U)
theorem Rel.Cz{a:Addr}{c U:Obj}(R:Rel P F ρ φ ((a,c)::aq) os fs h)(hs:Heap.SameBut a h h')(V:h'.get? a=some U):Rel P F ρ φ ((a,U)::aq) os fs h':=
 ((R.vj (o:= .any) trivial).Cy (o':= .any) rfl rfl hs V trivial).hide rfl V
theorem Rel.two{E J:Addr}{cE cJ W X:Obj}(R:Rel P F ρ φ ((E,cE)::(J,cJ)::aq) os fs h)(kE:h'.get? E=some W)(Y:h'.get? J=some X)(k:∀b o,b≠E->b≠J->h.get? b=some o->h'.get? b=some o):Rel P F ρ φ ((E,W)::(J,X)::aq) os fs h':=by
 have hE:(E,cE)∈(E,cE)::(J,cJ)::aq:= .head _
 have U:(J,cJ)∈(E,cE)::(J,cJ)::aq:= .tail _ (.head _)
 obtain⟨n1,Z⟩:=List.nodup_cons.mp R.hN
 obtain⟨K,L⟩:=List.nodup_cons.mp Z
 have old:∀p∈aq,p.1≠E/\p.1≠J:=λp hp=>⟨λe=>n1 (e▸ .tail _ (List.mem_map.mpr ⟨p,hp,rfl⟩)),λe=>K (e▸List.mem_map.mpr ⟨p,hp,rfl⟩)⟩
 refine⟨λb o e=>k b o (λq=> ?_) (λq=> ?_) (R.keep b o e),R.len,R.eX,λi o a e1 e2 hl=> ?_,R.new,R.inj, ?_, ?_, ?_,R.hN⟩
 ·rw[q,R.hF _ hE]at e;cases e
 ·rw[q,R.hF _ U]at e;cases e
 ·obtain⟨c,V,h2⟩:=R.at_ i o a e1 e2 hl
  exact⟨c,k _ _ (λq=>R.hC _ hE i o e1 hl (q▸e2)) (λq=>R.hC _ U i o e1 hl (q▸e2)) V,h2⟩
 ·exact List.forall_mem_cons.mpr ⟨kE,List.forall_mem_cons.mpr ⟨Y,λp hp=>k _ _ (old p hp).1 (old p hp).2 (R.bz p (.tail _ (.tail _ hp)))⟩⟩
 ·exact List.forall_mem_cons.mpr ⟨(R.hF (E,cE) hE:),List.forall_mem_cons.mpr ⟨(R.hF (J,cJ) U:),λp hp=>R.hF p (.tail _ (.tail _ hp))⟩⟩
 ·exact List.forall_mem_cons.mpr ⟨(R.hC (E,cE) hE:),List.forall_mem_cons.mpr ⟨(R.hC (J,cJ) U:),λp hp=>R.hC p (.tail _ (.tail _ hp))⟩⟩
theorem Rel.MM{E J:Addr}{cE cJ:Obj}(R:Rel P F ρ φ aq os fs h)(kE:h'.get? E=some cE)(V:h'.get? J=some cJ)(W:h.get? E=none)(X:h.get? J=none)(ne:E≠J)(k:∀b o,h.get? b=some o->h'.get? b=some o):Rel P F ρ φ ((E,cE)::(J,cJ)::aq) os fs h':=by
 have U:=R.keeps k
 have a:=R.fresh W
 have b:=R.fresh X
 refine{U with bz:= ?_,hF:= ?_,hC:= ?_,hN:= ?_}
 ·exact List.forall_mem_cons.mpr ⟨kE,List.forall_mem_cons.mpr ⟨V,U.bz⟩⟩
 ·exact List.forall_mem_cons.mpr ⟨a.n,List.forall_mem_cons.mpr ⟨b.n,U.hF⟩⟩
 ·exact List.forall_mem_cons.mpr ⟨λi o e1 e2 e3=>a.old i o e1 e3 e2,List.forall_mem_cons.mpr ⟨λi o e1 e2 e3=>b.old i o e1 e3 e2,U.hC⟩⟩
 ·refine List.nodup_cons.mpr ⟨λq=> ?_,List.nodup_cons.mpr ⟨λq=> ?_,U.hN⟩⟩
  ·rcases List.mem_cons.mp q with q|q
   ·exact ne q
   ·obtain⟨p,hp,e⟩:=List.mem_map.mp q;exact a.aq p hp e
  ·obtain⟨p,hp,e⟩:=List.mem_map.mp q;exact b.aq p hp e
end
theorem fF{α:Type}{o:Option α}{P:α->Prop}(s:o.elim True P){a:α}(h:o=some a):P a:=by rw[h]at s;exact s
theorem l8{b:Bool}{P:Prop}(s:cond b P True)(h:b=true):P:=by rw[h]at s;exact s
theorem sR{b:Bool}{P:Prop}(s:cond b True P)(h:b=false):P:=by rw[h]at s;exact s
theorem oW{P:Prop}:∀{b:Bool},(b=true->P)->cond b P True
 |true,h=>h rfl
 |false,_=>trivial
theorem zR{P:Nat->Prop}{l n:Nat}(h:P n):cond (Nat.beq l n) (P l) True:=oW λq=>(Nat.eq_of_beq_eq_true q).symm▸h
inductive DT(α:Type)where
 |leaf (a:α)|test (b:Bool) (t f:DT α)|fail
noncomputable def DT.bind{α β:Type}:DT α->(α->DT β)->DT β
 | .leaf a,k=>k a
 | .test b t f,k=> .test b (t.bind k) (f.bind k)
 | .fail,_=> .fail
noncomputable def DT.Holds{α:Type}(P:α->Prop):DT α->Prop
 | .leaf a=>P a
 | .test b t f=>(b=true->t.Holds P)/\(b=false->f.Holds P)
 | .fail=>False
noncomputable def DT.eval{α:Type}:DT α->Option α
 | .leaf a=>some a
 | .test b t f=>cond b t.eval f.eval
 | .fail=>none
theorem DT.du{α:Type}{P:α->Prop}:∀{t:DT α} {a:α},t.eval=some a->P a->t.Holds P
 | .leaf a,_,h,p=>by cases h;exact p
 | .test b t f,a,h,p=>by
   cases b with
   |true=>exact⟨λ_=>du (t:=t) h p,λe=>by cases e⟩
   |false=>exact⟨(λe=>by cases e),λ_=>du (t:=f) h p⟩
 | .fail,_,h,_=>by cases h
theorem DT.bK{α β:Type}{P:β->Prop}:∀{t:DT α} {k:α->DT β},(t.bind k).Holds P->t.Holds λa=>(k a).Holds P
 | .leaf a,k,h=>h
 | .test b t f,k,h=>⟨λe=>bK (h.1 e),λe=>bK (h.2 e)⟩
 | .fail,_,h=>h
theorem DT.Holds.mono{α:Type}{P Q:α->Prop}(h:∀a,P a->Q a):∀{t:DT α},t.Holds P->t.Holds Q
 | .leaf a,p=>h a p
 | .test b t f,p=>⟨λe=>DT.Holds.mono h (p.1 e),λe=>DT.Holds.mono h (p.2 e)⟩
 | .fail,p=>p
structure ES where
 fs:List AO
 os:List AO
noncomputable abbrev EM(α:Type):=ES->DT (α×ES)
noncomputable def ak{α:Type}(a:α):EM α:=λz=> .leaf (a,z)
noncomputable def ae{α:Type}:EM α:=λ_=> .fail
noncomputable def bd{α β:Type}(m:EM α)(k:α->EM β):EM β:=λz=>(m z).bind λr=>k r.1 r.2
noncomputable def fU(o:AO):EM U:=λz=> .leaf (.obj z.os.length,⟨z.fs,z.os++[o]⟩)
noncomputable def bo{α:Type}(b:Bool)(m1 m2:EM α):EM α:=λz=>Bool.casesOn b (m2 z) (m1 z)
noncomputable def bl{α β:Type}(o:Option β)(f:β->EM α):EM α:=λz=>Option.casesOn o .fail λx=>f x z
noncomputable def lT{α β:Type}(o:Option β)(f:β->EM α)(d:EM α):EM α:=λz=>Option.casesOn o (d z) λx=>f x z
noncomputable def pT{α β:Type}(o:Option β)(m:EM α):EM α:=λz=>Option.casesOn o (m z) λ_=> .fail
noncomputable def get'(l:Nat)(k:AO->EM α):EM α:=λz=>bl z.os[l]? k z
noncomputable def gZ(l:Nat)(o:AO):EM Unit:=λz=> .leaf ((),⟨z.fs,z.os.set l o⟩)
noncomputable def r8(k:List (Str×U)->EM α):EM α:=λz=>match z.fs with
 | .frame es::_=>k es z
 |_=> .fail
noncomputable def Rv(es:List (Str×U)):EM Unit:=λz=>match z.fs with
 | .frame _::r=> .leaf ((),⟨.frame es::r,z.os⟩)
 |_=> .fail
noncomputable def nw{α:Type}(r:α×ES):DT (α×ES):=match r.2.fs with
 | .frame _::rest=> .leaf (r.1,⟨rest,r.2.os⟩)
 |_=> .fail
noncomputable def eP{α:Type}(es:List (Str×U))(m:EM α):EM α:=λz=>(m ⟨.frame es::z.fs,z.os⟩).bind nw
noncomputable def aE{α:Type}(b:Bool)(m1 m2:EM α):EM α:=λz=> .test b (m1 z) (m2 z)
noncomputable def uQ:U->Bool
 | .bi _=>false
 | .ce=>false
 | .dat d=>(match d with| .none=>true| .bool _=>true| .int _=>true| .str _=>true| .tuple _=>true| .list _=>true| .dict _=>true)
 |_=>true
inductive AK where
 |aU (f:Addr)|val (v:U)|absent|bad
structure FI where
 names:List Str
 dflt:List U
 scope:Scope
 body:List Stmt
structure ST where
 fn:Addr->Option FI
 isFn:Addr->Bool
 m8:Addr->Bool
 cls:Addr->Option Addr
 glob:Str->Option U
 attr:Addr->Str->AK
 ip:Addr->Option (List (Str×U))
inductive FL where
 |next|brk|cont|ret (v:U)
noncomputable abbrev CL:=List (Str×Nat)
noncomputable def bZ:PyData->U
 | .none=> .none
 | .bool b=> .bool b
 | .int i=> .int i
 | .str x=> .str x
 |d=> .dat d
inductive PV where
 |none|bool (b:Bool)|int (i:Int)|str (x:Str)
noncomputable def pv(v:U):Option PV:=U.casesOn v (some .none) (λb=>some (.bool b)) (λi=>some (.int i)) (λx=>some (.str x)) (λ_=> .none) (λ_=> .none) (λ_=> .none) (λ_=> .none) (λ_=> .none) (λ_=> .none) (λ_ _=> .none) (λ_ _=> .none) .none
noncomputable def sS(p q:PV):Option Bool:=PV.casesOn p
 (PV.casesOn q (some true) (λ_=> .none) (λ_=>some false) λ_=>some false)
 (λa=>PV.casesOn q .none (λb=>some (a==b)) (λ_=> .none) λ_=> .none)
 (λi=>PV.casesOn q (some false) (λ_=> .none) (λj=>some (decide (i=j))) λ_=>some false)
 λx=>PV.casesOn q (some false) (λ_=> .none) (λ_=>some false) λy=>some (decide (x=y))
noncomputable def pc{α β γ:Type}(f:α->β->γ)(o:Option α)(p:Option β):Option γ:=Option.casesOn o .none λa=>Option.casesOn p .none λb=>some (f a b)
noncomputable def w9(a b:U):Option Bool:=Option.casesOn (pv a) .none λp=>Option.casesOn (pv b) .none λq=>sS p q
noncomputable def rN(x:U):List U->Option Bool
 |[]=>some false
 |y::r=>pc or (w9 x y) (rN x r)
noncomputable def w_(v:U):Option Bool:=U.casesOn v (some true) (λ_=>some false) (λ_=>some false) (λ_=>some false) (λ_=> .none) (λ_=> .none) (λ_=> .none) (λ_=>some false) (λ_=> .none) (λ_=> .none) (λ_ _=> .none) (λ_ _=> .none) .none
noncomputable def xa(v:U):Option Bool:=Option.casesOn (pv v) .none λp=>PV.casesOn p .none some (λ_=> .none) λ_=> .none
noncomputable def xb(a b:U):Option Bool:=Option.casesOn (w_ a) .none λp=>Option.casesOn (w_ b) .none λq=>cond (p||q) (some (p&&q)) (pc (·==·) (xa a) (xa b))
noncomputable def place(i:Int)(n:Nat):Nat:=if i<0 then(i+n).toNat else i.toNat
noncomputable def cy(i:Int)(n:Nat):Bool:=if i<0 then decide (0<=i+n)else decide (i.toNat<n)
noncomputable def fits(n:Nat):Bool:=Nat.ble n 1000000
noncomputable def strsOf:List U->Option (List Str)
 |[]=>some []
 | .str x::r=>(strsOf r).map (x::·)
 |_::_=>none
noncomputable def intsOf:List U->Option (List Int)
 |[]=>some []
 | .int x::r=>(intsOf r).map (x::·)
 |_::_=>none
mutual
noncomputable def cS(os:List AO):Nat->U->Option PyData
 |0,_=>none
 |_+1, .none=>some .none
 |_+1, .bool b=>some (.bool b)
 |_+1, .int i=>some (.int i)
 |_+1, .str x=>some (.str x)
 |_+1, .dat d=>some d
 |n+1, .tup xs=>(d9 os n xs).map .tuple
 |n+1, .obj l=>match os[l]?with
  |some (.list xs)=>(d9 os n xs).map .list
  |_=>none
 |_+1,_=>none
noncomputable def d9(os:List AO):Nat->List U->Option (List PyData)
 |0,_=>none
 |_+1,[]=>some []
 |n+1,x::r=>pc (·::·) (cS os n x) (d9 os n r)
end
section
variable(S:ST)(call:Addr->List U->EM U)
noncomputable def gI(v:U)(f:Int->EM α):EM α:=U.casesOn v ae (λ_=>ae) f (λ_=>ae) (λ_=>ae) (λ_=>ae) (λ_=>ae) (λ_=>ae) (λ_=>ae) (λ_=>ae) (λ_ _=>ae) (λ_ _=>ae) ae
noncomputable def gS(v:U)(f:Str->EM α):EM α:=U.casesOn v ae (λ_=>ae) (λ_=>ae) f (λ_=>ae) (λ_=>ae) (λ_=>ae) (λ_=>ae) (λ_=>ae) (λ_=>ae) (λ_ _=>ae) (λ_ _=>ae) ae
noncomputable def gT(v:U)(f:List U->EM α):EM α:=U.casesOn v ae (λ_=>ae) (λ_=>ae) (λ_=>ae) (λ_=>ae) (λ_=>ae) (λ_=>ae) (λ_=>ae) (λ_=>ae) f (λ_ _=>ae) (λ_ _=>ae) ae
noncomputable def gO(v:U)(f:Nat->EM α):EM α:=U.casesOn v ae (λ_=>ae) (λ_=>ae) (λ_=>ae) (λ_=>ae) (λ_=>ae) (λ_=>ae) f (λ_=>ae) (λ_=>ae) (λ_ _=>ae) (λ_ _=>ae) ae
noncomputable def Dp(v:U)(f:Nat->EM α)(d:EM α):EM α:=U.casesOn v d (λ_=>d) (λ_=>d) (λ_=>d) (λ_=>d) (λ_=>d) (λ_=>d) f (λ_=>d) (λ_=>d) (λ_ _=>d) (λ_ _=>d) d
noncomputable def gN(v:U)(f:Int->EM α)(g:Str->EM α):EM α:=U.casesOn v ae (λ_=>ae) f g (λ_=>ae) (λ_=>ae) (λ_=>ae) (λ_=>ae) (λ_=>ae) (λ_=>ae) (λ_ _=>ae) (λ_ _=>ae) ae
noncomputable def nS(v:U)(f:Str->EM α)(d:EM α):EM α:=U.casesOn v d (λ_=>d) (λ_=>d) f (λ_=>d) (λ_=>d) (λ_=>d) (λ_=>d) (λ_=>d) (λ_=>d) (λ_ _=>d) (λ_ _=>d) d
noncomputable def xc(v:U)(f:List U->EM α)(d:EM α):EM α:=U.casesOn v d (λ_=>d) (λ_=>d) (λ_=>d) (λ_=>d) (λ_=>d) (λ_=>d) (λ_=>d) (λ_=>d) f (λ_ _=>d) (λ_ _=>d) d
noncomputable def sT(l:Nat)(f:List U->EM α)(d:EM α):EM α:=get' l λo=>AO.casesOn o f (λ_=>d) (λ_ _=>d) (λ_=>d) (λ_=>d) d d
noncomputable def gL(l:Nat)(f:List U->EM α):EM α:=sT l f ae
noncomputable def gD(l:Nat)(f:List (Str×U)->EM α):EM α:=get' l λo=>AO.casesOn o (λ_=>ae) f (λ_ _=>ae) (λ_=>ae) (λ_=>ae) ae ae
noncomputable def gC(l:Nat)(f:Option U->EM α):EM α:=get' l λo=>AO.casesOn o (λ_=>ae) (λ_=>ae) (λ_ _=>ae) (λ_=>ae) f ae ae
noncomputable def gA(l:Nat)(f:Addr->Nat->List (Str×U)->EM α):EM α:=get' l λo=>AO.casesOn o (λ_=>ae) (λ_=>ae) (λC dl=>gD dl λes=>f C dl es) (λ_=>ae) (λ_=>ae) ae ae
noncomputable def nU(k:AK)(a:EM α)(m:Addr->EM α)(v:U->EM α):EM α:=AK.casesOn k m v a ae
noncomputable def itemsOf(v:U)(k:List U->EM α):EM α:=match v with
 | .dat (.tuple ds)=>k (ds.map bZ)
 | .dat (.list ds)=>k (ds.map bZ)
 | .tup xs=>k xs
 | .obj l=>gL l k
 |_=>ae
noncomputable def jg(v:U):EM Bool:=match v with
 | .none=>ak false
 | .bool b=>ak b
 | .int i=>ak (decide (i≠0))
 | .str x=>aE (fits x.length) (ak (decide (x.length≠0))) ae
 | .tup xs=>aE (fits xs.length) (ak (!xs.isEmpty)) ae
 | .aU _ _=>ak true
 | .dat (.list ds)=>aE (fits ds.length) (ak (!ds.isEmpty)) ae
 | .dat (.tuple ds)=>aE (fits ds.length) (ak (!ds.isEmpty)) ae
 | .obj l=>sT l (λxs=>aE (fits xs.length) (ak (!xs.isEmpty)) ae) (gD l λes=>aE (fits es.length) (ak (!es.isEmpty)) ae)
 |_=>ae
noncomputable def qT(v:U)(n:Str):EM U:=gO v λl=>gA l λC _ es=>nU (S.attr C n) (bl (lk n es) λa=>bo (uQ a) (ak a) ae) (λf=>pT (lk n es) (ak (.aU f v))) λa=>pT (lk n es) (ak a)
noncomputable def uo(v:U)(n:Str)(a:U):EM Unit:=gO v λl=>gA l λC dl es=>nU (S.attr C n) (bo (Nat.ble es.length 900) (gZ dl (.dict (cV n a es))) ae) (λ_=>ae) λ_=>ae
noncomputable def CA(v:U):EM U:=nS v (λx=>aE (fits x.length) (ak (.int x.length)) ae) (itemsOf v λxs=>aE (fits xs.length) (ak (.int xs.length)) ae)
noncomputable def pd(x y:Str)(lo hi:Nat):Int:=((Builtin.Str.occurrences x y lo hi (x.length+1)).length:Nat)
noncomputable def gR(x y:Str)(lo hi:Nat):Int:=match Builtin.Str.lastOccurrence x y lo hi with|some i=>(i:Int)|none=>-1
noncomputable def hA(args:List U)(f:U->List U->EM α):EM α:=match args with
 |a::r=>f a r
 |[]=>ae
noncomputable def hE(args:List U)(t f:EM α):EM α:=match args with
 |[]=>t
 |_::_=>f
noncomputable def hS(args:List U)(f:Str->List U->EM α):EM α:=hA args λa r=>gS a λx=>f x r
noncomputable def hI(args:List U)(f:Int->List U->EM α):EM α:=hA args λa r=>gI a λx=>f x r
noncomputable def hO(args:List U)(f:Nat->List U->EM α):EM α:=hA args λa r=>gO a λx=>f x r
noncomputable def vK(id:BI)(args:List U):EM U:=match id with
 | .len=>hA args λv r=>hE r (CA v) ae
 | .ord=>hS args λx r=>hE r (match x.cps.toList with
   |[c]=>ak (.int c)
   |_=>ae) ae
 | .chr=>hI args λi r=>hE r (aE (decide (0<=i)&&decide (i<=0x10FFFF)) (ak (.str ⟨#[i.toNat]⟩)) ae) ae
 | .sum=>hO args λl r=>hE r (gL l λxs=>bl (intsOf xs) λis=>ak (.int is.sum)) ae
 | .lower=>hS args λx r=>hE r (aE (fits (Txt.lower x).length) (ak (.str (Txt.lower x))) ae) ae
 | .find=>hS args λx r=>hS r λy r=>hE r (ak (.int (Txt.find x y))) (hI r λi r=>hE r (ak (.int (Txt.find3 x y i))) ae)
 | .count=>hS args λx r=>hS r λy r=>hI r λi r=>hI r λj r=>hE r (ak (.int (pd x y (fromIndex x.length i) (min (fromIndex x.length j) x.length)))) ae
 | .rfind=>hS args λx r=>hS r λy r=>hI r λi r=>hI r λj r=>hE r (ak (.int (gR x y (fromIndex x.length i) (min (fromIndex x.length j) x.length)))) ae
 | .replace=>hS args λx r=>hS r λy r=>hS r λ_ r=>hE r (aE (Builtin.Str.occurrences x y 0 x.length (x.length+1)).isEmpty (ak (.str x)) ae) ae
 | .split=>hS args λx r=>hS r λy r=>hE r (aE (fits x.length&& !(y.length==0)) (fU (.list ((Txt.split x y).map .str))) ae) ae
 | .join=>hS args λx r=>hO r λl r=>hE r (gL l λxs=>bl (strsOf xs) λys=>aE (JoinOk x ys) (ak (.str (Txt.join x ys))) ae) ae
 | .startswith=>hS args λx r=>hS r λy r=>hE r (ak (.bool (Txt.startswith x y))) ae
 | .append=>hO args λl r=>hA r λa r=>hE r (gL l λxs=>aE (fits xs.length) (bd (gZ l (.list (xs++[a]))) λ_=>ak .none) ae) ae
 | .pop=>hO args λl r=>hE r (gL l λxs=>bl xs.getLast? λy=>aE (fits xs.length) (bd (gZ l (.list xs.dropLast)) λ_=>ak y) ae) (hI r λi r=>hE r (gL l λxs=>hA xs λy r=>aE (decide (i=0)&&fits r.length) (bd (gZ l (.list r)) λ_=>ak y) ae) ae)
noncomputable def vL(id:BT)(args:List U):EM U:=match id with
 | .range=>hI args λm r=>hE r (ak (.cL 0 m)) (hI r λn r=>hE r (ak (.cL m n)) ae)
 |_=>ae
noncomputable def cO(f:U)(args:List U):EM U:=match f with
 | .top a=>bo (S.isFn a||S.m8 a) (call a args) ae
 | .bi id=>vK id args
 | .ty id=>vL id args
 | .aU f self=>bo (S.isFn f) (call f (self::args)) ae
 |_=>ae
noncomputable def zU:List (Str×BI):=[("lower", .lower),("count", .count),("rfind", .rfind),("find", .find),("replace", .replace),("split", .split),("join", .join),("startswith", .startswith)]
noncomputable def zg:List (Str×BI):=[("append", .append),("pop", .pop)]
noncomputable def vM(v:U)(n:Str):EM (U×List U):=nS v (λ_=>bl (lk n zU) λb=>ak (.bi b,[v])) (gO v λl=>sT l (λ_=>bl (lk n zg) λb=>ak (.bi b,[v]))
 (gA l λC _ es=>nU (S.attr C n) (bl (lk n es) λa=>bo (uQ a) (ak (a,[])) ae) (λf=>pT (lk n es) (ak (.top f,[v]))) λ_=>ae))
noncomputable def wg(a b:U):EM U:=gN a (λi=>gI b λj=>ak (.int (i+j))) λx=>gS b λy=>aE (fits x.length&&fits y.length) (ak (.str (x++y))) ae
noncomputable def CC(a b:U):EM U:=gI a λi=>gI b λj=>ak (.int (i-j))
noncomputable def CD(a b:U)(d:EM U):EM U:=Dp a (λl=>gO b λV=>gL l λxs=>gL V λys=>aE (fits xs.length&&fits ys.length) (fU (.list (xs++ys))) ae) d
noncomputable def jn(op:Operator)(a b:U):EM U:=match op with
 | .Add=>xc a (λxs=>gT b λys=>aE (fits xs.length&&fits ys.length) (ak (.tup (xs++ys))) ae) (CD a b (wg a b))
 | .Sub=>CC a b
 | .Mult=>gI a λi=>gI b λj=>aE (fits i.natAbs) (ak (.int (i*j))) ae
 | .Mod=>gI a λi=>gI b λj=>aE (!(j==0)) (ak (.int (i.fmod j))) ae
 | .FloorDiv=>gI a λi=>gI b λj=>aE (!(j==0)&&fits j.natAbs) (ak (.int (i.fdiv j))) ae
 |_=>ae
noncomputable def BK(a b:U)(k:Bool->EM Bool):EM Bool:=λz=>bl (cS z.os 12 a) (λd=>bl (cS z.os 12 b) λe=>aE (PySem.SeqAt.shaped d&&PySem.SeqAt.shaped e) (k (PyData.eqv d e)) ae) z
noncomputable def Dq(a b:U)(k:Bool->EM Bool):EM Bool:=lT (w9 a b) k (BK a b k)
noncomputable def sU(x y:Str):Bool:=decide (x.cps.toList<y.cps.toList)
noncomputable def pe(fi:Int->Int->Bool)(fs:Str->Str->Bool)(a b:U):EM Bool:=gN a (λi=>gI b λj=>ak (fi i j)) λx=>gS b λy=>ak (fs x y)
noncomputable def xd(f:Bool->Bool)(a b:U):EM Bool:=nS b (λy=>gS a λx=>ak (f (Txt.contains y x))) (itemsOf b λxs=>bl (rN a xs) λr=>ak (f r))
noncomputable def ft(op:CmpOp)(a b:U):EM Bool:=match op with
 | .Eq=>Dq a b ak
 | .NotEq=>Dq a b λr=>ak !r
 | .Is=>bl (xb a b) ak
 | .IsNot=>bl (xb a b) λr=>ak !r
 | .In=>xd id a b
 | .NotIn=>xd not a b
 | .Lt=>pe (λi j=>decide (i<j)) sU a b
 | .LtE=>pe (λi j=>decide (i<=j)) (λx y=> !(sU y x)) a b
 | .Gt=>pe (λi j=>decide (j<i)) (λx y=>sU y x) a b
 | .GtE=>pe (λi j=>decide (j<=i)) (λx y=> !(sU x y)) a b
noncomputable def CE(v:U)(k:Str):EM U:=U.casesOn v ae (λ_=>ae) (λ_=>ae) (λ_=>ae) (λ_=>ae) (λ_=>ae) (λa=>bl (S.ip a) λes=>bl (lk k es) ak) (λl=>gD l λes=>bl (lk k es) ak) (λ_=>ae) (λ_=>ae) (λ_ _=>ae) (λ_ _=>ae) ae
noncomputable def cG(v i:U):EM U:=gN i (λi=>nS v (λx=>aE (fits x.length&&cy i x.length) (ak (.str (Txt.item x i))) ae)
 (itemsOf v λxs=>bl xs[place i xs.length]? λr=>aE (fits xs.length&&cy i xs.length) (ak r) ae)) λk=>CE S v k
noncomputable def xe(v:U):Option (Option Int):=Option.casesOn (pv v) .none λp=>PV.casesOn p (some .none) (λ_=> .none) (λi=>some (some i)) λ_=> .none
noncomputable def d_(n:Nat)(d:Nat)(b:Option Int):Nat:=Option.casesOn b d λi=>if i<0 then(i+n).toNat else min i.toNat n
noncomputable def cut{α:Type}(xs:List α)(a b:Nat):List α:=(xs.take b).drop a
noncomputable def aV(x:Str)(a b:Nat):Str:=⟨(cut x.cps.toList a b).toArray⟩
noncomputable def wh(xs:List U)(lo hi:Option Int):EM U:=aE (fits xs.length) (fU (.list (cut xs (d_ xs.length 0 lo) (d_ xs.length xs.length hi)))) ae
noncomputable def CF(v:U)(k:List U->EM α):EM α:=match v with
 | .dat (.list ds)=>k (ds.map bZ)
 | .obj l=>gL l k
 |_=>ae
noncomputable def oL(v lo hi:U):EM U:=bl (xe lo) λlo=>bl (xe hi) λhi=>nS v (λx=>aE (fits x.length) (ak (.str (aV x (d_ x.length 0 lo) (d_ x.length x.length hi)))) ae) (CF v λxs=>wh xs lo hi)
noncomputable def oB(v i a:U):EM Unit:=gO v λl=>gN i (λi=>gL l λxs=>aE (fits xs.length&&cy i xs.length) (gZ l (.list (xs.set (place i xs.length) a))) ae)
 λk=>gD l λes=>aE (fits es.length) (gZ l (.dict (cV k a es))) ae
structure IH where
 E:PySem.Expr->EM U
 T:PySem.Expr->EM Bool
 St:Stmt->EM FL
variable(sc:Scope)(cl:CL)
noncomputable def CG:Const->EM U
 | .none=>ak .none
 | .bool b=>ak (.bool b)
 | .int i=>ak (.int i)
 | .str x=>ak (.str x)
 |_=>ae
noncomputable def m9(id:Str):EM U:=bo (sEq id "__debug__") ae (bl (lk id sc.names) λk=>match k with
 | .local=>r8 λes=>bl (lk id es) ak
 | .globalImplicit=>bl (S.glob id) ak
 | .cell=>bl (lk id cl) λl=>gC l λv=>bl v ak
 |_=>ae)
noncomputable def rp(id:Str)(v:U):EM Unit:=bl (lk id sc.names) λk=>match k with
 | .local=>r8 λes=>Rv (cV id v es)
 | .cell=>bl (lk id cl) λl=>gC l λ_=>gZ l (.cell (some v))
 |_=>ae
noncomputable def isStar:PySem.Expr->Bool
 | .Starred .. =>true
 |_=>false
noncomputable def isSlice:PySem.Expr->Bool
 | .Slice .. =>true
 |_=>false
noncomputable def iB{α β:Type}(o:List α)(m:EM β):EM β:=λz=>List.casesOn o (m z) λ_ _=> .fail
noncomputable def kQ{α β:Type}(o:List α)(f:α->EM β):EM β:=λz=>List.casesOn o .fail λx r=>iB r (f x) z
noncomputable def dw(f:PySem.Expr->EM U):List PySem.Expr->EM (List U)
 |[]=>ak []
 |e::r=>bo (isStar e) ae (bd (f e) λv=>bd (dw f r) λvs=>ak (v::vs))
noncomputable def pairsOf:List (Option PySem.Expr)->List PySem.Expr->Option (List (PySem.Expr×PySem.Expr))
 |[],[]=>some []
 |some k::ks,v::vs=>(pairsOf ks vs).map ((k,v)::·)
 |_,_=>none
noncomputable def rq(f:PySem.Expr->EM U):List (PySem.Expr×PySem.Expr)->EM (List (Str×U))
 |[]=>ak []
 |(k,v)::r=>bd (f k) λkv=>gS kv λx=>bd (f v) λa=>bd (rq f r) λes=>ak ((x,a)::es)
noncomputable def putAll:List (Str×U)->List (Str×U)->List (Str×U)
 |[],es=>es
 |(x,a)::r,es=>putAll r (cV x a es)
noncomputable def oM(f:PySem.Expr->EM U)(left:U)(ops:List CmpOp)(rs:List PySem.Expr):EM Bool:=match ops,rs with
 |[op],[r]=>bd (f r) λV=>ft op left V
 |[op,e_],[r,r']=>bd (f r) λV=>bd (ft op left V) λb=>aE b (bd (f r') λW=>ft e_ V W) (ak false)
 |_,_=>ae
noncomputable def rO(f:PySem.Expr->EM U)(op:BoolOp):List PySem.Expr->EM U
 |[]=>ae
 |[x]=>f x
 |x::r=>bd (f x) λv=>bd (jg v) λb=>match op with
  | .And=>aE b (rO f op r) (ak v)
  | .Or=>aE b (ak v) (rO f op r)
noncomputable def rP(f:PySem.Expr->EM Bool)(op:BoolOp):List PySem.Expr->EM Bool
 |[]=>ak (match op with| .And=>true| .Or=>false)
 |x::r=>bd (f x) λb=>match op with
  | .And=>aE b (rP f op r) (ak false)
  | .Or=>aE b (ak true) (rP f op r)
noncomputable def gU:PySem.Expr->Bool
 | .Set .. =>true
 |_=>false
noncomputable def marks:List CmpOp->List PySem.Expr->Bool
 |ops,rs=>rs.any gU|| !(Nat.beq ops.length rs.length)
noncomputable def q5:PySem.Expr->Bool
 | .Call (.Name ..) [] [] _=>true
 |_=>false
noncomputable def noStar(es:List PySem.Expr):Bool:=es.all λe=> !isStar e
noncomputable def pf(f:PySem.Expr->EM U):Option PySem.Expr->EM U
 |none=>ak .none
 |some e=>f e
noncomputable def l9(m:EM FL)(r:FL):EM FL:=FL.casesOn r m (ak .brk) (ak .cont) λv=>ak (.ret v)
noncomputable def aB(f:Stmt->EM FL):List Stmt->EM FL
 |[]=>ak .next
 |s::r=>bd (f s) (l9 (aB f r))
noncomputable def CH(v:U):EM U:=gI v λi=>ak (.int (-i))
noncomputable def uR(f:PySem.Expr->EM U):PySem.Expr->U->EM Unit
 | .Name id _,v=>rp sc cl id v
 | .Attribute o n _,v=>bd (f o) λV=>uo S V n v
 | .Subscript o i _,v=>bo (isSlice i) ae (bd (f o) λV=>bd (f i) λW=>oB V W v)
 |_,_=>ae
noncomputable def uS(f:PySem.Expr->EM U):List PySem.Expr->List U->EM Unit
 |[],[]=>ak ()
 |t::ts,v::vs=>bd (uR S sc cl f t v) λ_=>uS f ts vs
 |_,_=>ae
noncomputable def Rw:PyData->Option (List PyData)
 | .tuple ds=>some ds
 |_=>none
noncomputable def CI(v:U):Option (List U):=U.casesOn v .none (λ_=> .none) (λ_=> .none) (λ_=> .none) (λ_=> .none) (λ_=> .none) (λ_=> .none) (λ_=> .none) (λd=>(Rw d).map (·.map bZ)) some (λ_ _=> .none) (λ_ _=> .none) .none
noncomputable def bv(f:PySem.Expr->EM U):PySem.Expr->U->EM Unit
 | .Tuple ts _ _,v=>bl (CI v) λxs=>bo (Nat.beq ts.length xs.length&&noStar ts) (uS S sc cl f ts xs) ae
 |t,v=>uR S sc cl f t v
inductive Src where
 |fixed (xs:List U)|live (l:Nat)
noncomputable def itemAt(src:Src)(i:Nat)(k:Option U->EM α):EM α:=match src with
 | .fixed xs=>k xs[i]?
 | .live l=>gL l λxs=>k xs[i]?
noncomputable def chars(x:Str):List U:=x.cps.toList.map λc=> .str ⟨#[c]⟩
noncomputable def iq(a b:Int):List U:=(List.range (b-a).toNat).map λi=> .int (a+(i:Nat))
noncomputable def srcOf(v:U)(k:Src->EM α):EM α:=match v with
 | .str x=>k (.fixed (chars x))
 | .tup xs=>k (.fixed xs)
 | .cL a b=>aE (decide (0<=a)&&fits a.toNat&&(decide (0<=b)&&fits b.toNat)) (k (.fixed (iq a b))) ae
 | .dat (.tuple ds)=>k (.fixed (ds.map bZ))
 | .dat (.list ds)=>k (.fixed (ds.map bZ))
 | .obj l=>gL l λ_=>k (.live l)
 |_=>ae
noncomputable def fu(more:EM FL)(r:FL):EM FL:=FL.casesOn r more (ak .next) more λv=>ak (.ret v)
noncomputable def cQ(asg:U->EM Unit)(b:EM FL)(src:Src):Nat->Nat->EM FL
 |0,_=>ae
 |n+1,i=>itemAt src i λo=>match o with
  |none=>ak .next
  |some x=>bd (asg x) λ_=>bd b (fu (cQ asg b src n (i+1)))
noncomputable def dg(t:EM Bool)(b:EM FL):Nat->EM FL
 |0=>ae
 |n+1=>bd t λc=>aE c (bd b (fu (dg t b n))) (ak .next)
noncomputable def app(l:Nat)(y:U):EM Unit:=gL l λys=>aE (fits ys.length) (gZ l (.list (ys++[y]))) ae
noncomputable def eB(f:PySem.Expr->EM Bool):List PySem.Expr->EM Bool
 |[]=>ak true
 |e::r=>bd (f e) λb=>aE b (eB f r) (ak false)
noncomputable def dG(asg:U->EM Unit)(t:EM Bool)(e:EM U)(l:Nat)(src:Src):Nat->Nat->EM Unit
 |0,_=>ae
 |n+1,i=>itemAt src i λo=>match o with
  |none=>ak ()
  |some x=>bd (asg x) λ_=>bd t λok=>aE ok
   (bd e λy=>bd (app l y) λ_=>dG asg t e l src n (i+1))
   (dG asg t e l src n (i+1))
noncomputable def cw(scope sc:Scope):Scope:={scope with names:=scope.names.map λ(n,k)=>if(k== .free&&sc.kind== .function&&lk n sc.names==some .cell)then(n, .cell)else(n,k)}
noncomputable def bW(cl:CL):List (Str×NameKind)->CL
 |[]=>[]
 |(n,k)::r=>match k== .free,lk n cl with
  |true,some l=>(n,l)::bW cl r
  |_,_=>bW cl r
noncomputable def vk(scope sc:Scope)(cl:CL):Bool:=scope.kind== .function&&scope.names.all λ(n,k)=>
 match k with
 | .cell=>false
 | .free=>(lk n cl).isSome&&(lk n sc.names==some .cell)
 | .local=>lk n scope.names==some .local
 |_=>true
variable(N:Nat)
noncomputable def BL(ih:IH)(alt:Scope->CL->IH)(elt:PySem.Expr)(tg it:PySem.Expr)(ifs:List PySem.Expr)(scope:Scope):EM U:=
 bo (vk scope sc cl&& !(gU it)) (bd (ih.E it) λx=>srcOf x λsrc=>bd (fU (.list [])) λd=>gO d λl=>bd (eP [] (dG (bv S (cw scope sc) (bW cl scope.names) (alt (cw scope sc) (bW cl scope.names)).E tg)
  (eB (alt (cw scope sc) (bW cl scope.names)).T ifs) ((alt (cw scope sc) (bW cl scope.names)).E elt) l src N 0)) λ_=>ak d) ae
noncomputable def gV(asg:U->EM Unit)(t:EM Bool)(e:EM U)(l src:Nat):Nat->Nat->EM Unit
 |0,_=>ae
 |n+1,i=>gL src λxs=>Option.casesOn xs[i]? (ak ()) λx=>bd (asg (.tup [.int (i:Nat),x])) λ_=>bd t λok=>aE ok
   (bd e λy=>bd (app l y) λ_=>gV asg t e l src n (i+1))
   (gV asg t e l src n (i+1))
noncomputable def wi:PySem.Expr->Option (Str×Pos×PySem.Expr×Pos)
 | .Call (.Name id p) [e] [] pos=>match sEq id "enumerate"with
   |true=>some (id,p,e,pos)
   |false=>none
 |_=>none
noncomputable def MN:PySem.Expr->Bool
 | .Tuple .. =>true
 |_=>false
noncomputable def O'(g:U)(m:EM α):EM α:=match g with
 | .ty .pQ=>m
 |_=>ae
noncomputable def Rx(vs:List U)(f:U->EM α):EM α:=List.casesOn vs ae λa r=>List.casesOn r (f a) λ_ _=>ae
noncomputable def A_(ih:IH)(alt:Scope->CL->IH)(elt:PySem.Expr)(tg:PySem.Expr)(id:Str)(e:PySem.Expr)(ifs:List PySem.Expr)(scope:Scope):EM U:=
 bo (vk scope sc cl&&(MN tg&&noStar [e])) (bd (m9 S sc cl id) λg=>O' g (bd (dw ih.E [e]) λvs=>Rx vs λx=>gO x λsrc=>gL src λ_=>bd (fU (.list [])) λd=>gO d λl=>bd (eP [] (gV (bv S (cw scope sc) (bW cl scope.names) (alt (cw scope sc) (bW cl scope.names)).E tg)
  (eB (alt (cw scope sc) (bW cl scope.names)).T ifs) ((alt (cw scope sc) (bW cl scope.names)).E elt) l src N 0)) λ_=>ak d)) ae
noncomputable def BM(f:PySem.Expr->EM U)(args:List PySem.Expr)(pos:Pos):PySem.Expr->EM U
 | .Attribute o n apos=>bo ((apos.endLine==pos.line)&&(Nat.ble args.length 20&&(!q5 o&&noStar args))) (bd (f o) λv=>bd (vM S v n) λc=>bd (dw f args) λvs=>cO S call c.1 (c.2++vs)) ae
 | .Name id _=>bo (noStar args) (bd (m9 S sc cl id) λg=>bd (dw f args) λvs=>cO S call g vs) ae
 |_=>ae
noncomputable def Dr(f:PySem.Expr->EM U)(e:PySem.Expr):PySem.Expr->EM U
 | .Slice lo hi st _=>pT st (bd (f e) λv=>bd (pf f lo) λa=>bd (pf f hi) λb=>oL v a b)
 |_=>ae
noncomputable def Ds(f:PySem.Expr->EM U)(e:PySem.Expr):UnaryOp->EM U
 | .Not=>bd (f e) λv=>bd (jg v) λb=>ak (.bool !b)
 | .USub=>bd (f e) CH
 |_=>ae
noncomputable def BN(ih:IH)(alt:Scope->CL->IH):PySem.Expr->EM U
 | .Constant c _ _=>CG c
 | .Name id _=>m9 S sc cl id
 | .BoolOp op es _=>rO ih.E op es
 | .BinOp a op b _=>bd (ih.E a) λx=>bd (ih.E b) λy=>jn op x y
 | .UnaryOp op e _=>Ds ih.E e op
 | .IfExp t a b _=>bd (ih.T t) λc=>aE c (ih.E a) (ih.E b)
 | .Compare l ops rs _=>bo (marks ops rs) ae (bd (ih.E l) λv=>bd (oM ih.E v ops rs) λb=>ak (.bool b))
 | .Attribute o n _=>bo (q5 o) ae (bd (ih.E o) λv=>qT S v n)
 | .Call f args kw pos=>iB kw (BM S call sc cl ih.E args pos f)
 | .Subscript e i _=>bo (isSlice i) (Dr ih.E e i) (bd (ih.E e) λv=>bd (ih.E i) λk=>cG S v k)
 | .List es _=>bo (Nat.ble es.length 900&&noStar es) (bd (dw ih.E es) λvs=>aE (fits vs.length) (fU (.list vs)) ae) ae
 | .Tuple es _ _=>bo (Nat.ble es.length 900&&noStar es) (bd (dw ih.E es) λvs=>aE (fits vs.length) (ak (.tup vs)) ae) ae
 | .Dict ks vs _=>bl (pairsOf ks vs) λps=>bo (Nat.ble ps.length 15) (bd (rq ih.E ps) λes=>fU (.dict (putAll es []))) ae
 | .ListComp elt gs scope _=>kQ gs λg=>bo (decide (g.is_async=0)) (Option.casesOn (wi g.iter) (BL S sc cl N ih alt elt g.target g.iter g.ifs scope) λq=>A_ S sc cl N ih alt elt g.target q.1 q.2.2.1 g.ifs scope) ae
 |_=>ae
noncomputable def stepT(ih:IH):PySem.Expr->EM Bool
 | .UnaryOp .Not e _=>bd (ih.T e) λb=>ak !b
 | .BoolOp op es _=>rP ih.T op es
 | .Compare l ops rs _=>bo (marks ops rs) ae (bd (ih.E l) λv=>oM ih.E v ops rs)
 | .IfExp t a b _=>bd (ih.T t) λc=>aE c (ih.T a) (ih.T b)
 |e=>bd (ih.E e) jg
noncomputable def oX(op:Operator)(a b:U):EM U:=match op with
 | .Add=>wg a b
 | .Sub=>CC a b
 |_=>ae
noncomputable def isTup:PySem.Expr->Bool
 | .Tuple .. =>true
 | .List .. =>true
 |_=>false
noncomputable def oN:PySem.Expr->Bool
 | .ListComp .. =>true
 | .SetComp .. =>true
 | .DictComp .. =>true
 |_=>false
noncomputable def CJ(f:PySem.Expr->EM U)(op:Operator)(v:PySem.Expr):PySem.Expr->EM FL
 | .Name id _=>bd (m9 S sc cl id) λold=>bd (f v) λx=>bd (oX op old x) λr=>bd (rp sc cl id r) λ_=>ak .next
 | .Attribute o n _=>bd (f o) λV=>bd (qT S V n) λold=>bd (f v) λx=>bd (oX op old x) λr=>bd (uo S V n r) λ_=>ak .next
 | .Subscript o i _=>bo (isSlice i) ae (bd (f o) λV=>bd (f i) λW=>bd (cG S V W) λold=>bd (f v) λx=>bd (oX op old x) λr=>bd (oB V W r) λ_=>ak .next)
 |_=>ae
noncomputable def BO(ih:IH):Stmt->EM FL
 | .Expr e _=>bo (oN e) ae (bd (ih.E e) λ_=>ak .next)
 | .Assign ts v _=>kQ ts λt=>bo (isStar t||(oN v||(isTup t&&isTup v))) ae (bd (ih.E v) λa=>bd (bv S sc cl ih.E t a) λ_=>ak .next)
 | .AugAssign t op v _=>CJ S sc cl ih.E op v t
 | .If t b e _=>bd (ih.T t) λc=>aE c (aB ih.St b) (aB ih.St e)
 | .Return e _=>lT e (λe=>bd (ih.E e) λv=>ak (.ret v)) (ak (.ret .none))
 | .Pass _=>ak .next
 | .Break _=>ak .brk
 | .Continue _=>ak .cont
 | .While t b o _=>iB o (dg (ih.T t) (aB ih.St b) N)
 | .For tg it b o _=>iB o (bo (gU it) ae (bd (ih.E it) λx=>srcOf x λsrc=>cQ (bv S sc cl ih.E tg) (aB ih.St b) src N 0))
 | .Assert t _ _=>bd (ih.T t) λc=>aE c (ak .next) ae
 |_=>ae
noncomputable def bM:Nat->Scope->CL->IH
 |0,_,_=>⟨λ_=>ae,λ_=>ae,λ_=>ae⟩
 |n+1,sc,cl=>⟨BN S call sc cl N (bM n sc cl) (bM n),stepT (bM n sc cl),BO S sc cl N (bM n sc cl)⟩
noncomputable def gW(fi:FI)(args:List U):Option (List (Str×U)):=cond (Nat.ble args.length fi.names.length&&(Nat.ble fi.dflt.length fi.names.length&&Nat.ble fi.names.length (args.length+fi.dflt.length)))
 (some (fi.names.zip (args++fi.dflt.drop (args.length+fi.dflt.length-fi.names.length)))) none
noncomputable def storeAll:List (Str×U)->EM Unit
 |[]=>ak ()
 |(x,a)::r=>bd (rp sc cl x a) λ_=>storeAll r
noncomputable def gl:List (Str×NameKind)->CL->EM CL
 |[],acc=>ak acc
 |(n,k)::r,acc=>bo (k== .cell) (bd (fU (.cell none)) λd=>gO d λl=>gl r ((n,l)::acc)) (gl r acc)
end
noncomputable def pg(r:FL):EM U:=FL.casesOn r (ak .none) ae ae ak
noncomputable def vN(v:U)(m:EM α):EM α:=U.casesOn v m (λ_=>ae) (λ_=>ae) (λ_=>ae) (λ_=>ae) (λ_=>ae) (λ_=>ae) (λ_=>ae) (λ_=>ae) (λ_=>ae) (λ_ _=>ae) (λ_ _=>ae) ae
noncomputable def aL(S:ST)(call:Addr->List U->EM U)(N fuel:Nat)(f:Addr)(args:List U):EM U:=
 lT (S.fn f) (λfi=>bl (gW fi args) λbs=>bd (eP [] (bd (gl fi.scope.names []) λcl=>bd (storeAll fi.scope cl bs) λ_=>aB (bM S call N fuel fi.scope cl).St fi.body)) pg)
  (bl (S.cls f) λg=>bd (fU (.dict [])) λd=>gO d λdl=>bd (fU (.inst f dl)) λx=>bd (call g (x::args)) λr=>vN r (ak x))
noncomputable def rQ(S:ST)(N fuel:Nat):Nat->Addr->List U->EM U
 |0=>λ_ _=>ae
 |n+1=>aL S (rQ S N fuel n) N fuel
structure Cx where
 prog:Program
 w:World
 K:Frag
 mg:Str->Option Value
 mb:Str->Option Value
 GT:Type
 gk:Array GenState->GT
structure gq(C:Cx)(F:Heap):Prop where
 K:C.K.In F
 g:F.Ns mainGlobals C.mg
 b:F.Ns builtinsNs C.mb
 nolimit:F.NoLimit
 sm:∃o,F.get? sysModules=some o
theorem gq.keeps{C:Cx}{F F':Heap}(B:gq C F)(k:∀b o,F.get? b=some o->F'.get? b=some o):gq C F':=
 ⟨B.K.keeps k,B.g.keeps k,B.b.keeps k,B.nolimit.keeps k,let⟨o,e⟩:=B.sm;⟨o,k _ _ e⟩⟩
structure St(C:Cx)(F:Heap)(ρ φ:List Addr)(aq:List (Addr×Obj))(z:ES)(h:Heap):Prop where
 base:gq C F
 rel:Rel C.w.params F ρ φ aq z.os z.fs h
theorem St.here{C:Cx}{F:Heap}{ρ φ:List Addr}{aq:List (Addr×Obj)}{z:ES}{h:Heap}(S:St C F ρ φ aq z h):gq C h:=S.base.keeps S.rel.keep
structure Wh where
 F:Heap
 ρ:List Addr
 φ:List Addr
 aq:List (Addr×Obj)
noncomputable def Wh.to(W:Wh)(F':Heap)(af:List Addr):Wh:=⟨F',af,W.φ,W.aq⟩
inductive nV(C:Cx)(W:Wh)(G:C.GT)(o:OsState){α β:Type}(R:Heap->List Addr->β->α->Prop)(Q:β×ES->Prop)(v:α)(s':Shared):Prop
 |mk (b:β) (z':ES) (F':Heap) (af:List Addr) (q:Q (b,z')) (X:Ext W.F W.ρ F' af) (S:St C F' af W.φ W.aq z' s'.heap) (r:R F' af b v) (g:C.gk s'.gens=G) (e:s'.os=o)
noncomputable abbrev Po(C:Cx)(W:Wh)(s:Shared){α β:Type}(R:Heap->List Addr->β->α->Prop)(Q:β×ES->Prop):α->Shared->Prop:=nV C W (C.gk s.gens) s.os R Q
noncomputable def Tr(C:Cx)(A:Around){α β:Type}(t:Sem α)(s:Shared)(W:Wh)(R:Heap->List Addr->β->α->Prop)(T:DT (β×ES)):Prop:=
 ∀Q:β×ES->Prop,T.Holds Q->wpAny (model C.prog C.w) A t (Po C W s R Q) (λ_ _=>False) s
noncomputable abbrev SW(C:Cx)(W:Wh)(z:ES)(s:Shared):Prop:=St C W.F W.ρ W.φ W.aq z s.heap
noncomputable abbrev RB:Heap->List Addr->Bool->Bool->Prop:=λ_ _ b v=>v=b
noncomputable abbrev RU:Heap->List Addr->Unit->Unit->Prop:=λ_ _ _ _=>True
noncomputable def RF(F:Heap)(ρ:List Addr):FL->Flow->Prop
 | .next,f=>f= .next
 | .brk,f=>f= .brk
 | .cont,f=>f= .cont
 | .ret a,f=>∃v,f= .ret v/\VR F ρ a v
section
variable{C:Cx}{A:Around}{α β γ δ:Type}{s:Shared}{W:Wh}{z:ES}
theorem Po.here{R:Heap->List Addr->β->α->Prop}{Q:β×ES->Prop}{b:β}{v:α}{s':Shared}(q:Q (b,z))(S:SW C W z s')(r:R W.F W.ρ b v)(U:C.gk s'.gens=C.gk s.gens)(ho:s'.os=s.os):Po C W s R Q v s':=
 ⟨b,z,W.F,W.ρ,q,Ext.refl _ _,S,r,U,ho⟩
theorem Po.more{R:Heap->List Addr->β->α->Prop}{Q:β×ES->Prop}{v:α}{U s':Shared}{V:Heap}{Y:List Addr}(X:Ext W.F W.ρ V Y)(Z:C.gk U.gens=C.gk s.gens)(ho:U.os=s.os):Po C (W.to V Y) U R Q v s'->Po C W s R Q v s'
 |⟨b,z',F',af,q,J,K,r,g,o⟩=>⟨b,z',F',af,q,X.trans J,K,r,g.trans Z,o.trans ho⟩
theorem Tr.out{t:Sem α}{R:Heap->List Addr->β->α->Prop}{T:DT (β×ES)}{Q:β×ES->Prop}{Q':α->Shared->Prop}{E:Value->Shared->Prop}(h:Tr C A t s W R T)(U:T.Holds Q)
 (k:∀v s' b z' F' af,Q (b,z')->Ext W.F W.ρ F' af->SW C (W.to F' af) z' s'->R F' af b v->C.gk s'.gens=C.gk s.gens->s'.os=s.os->Q' v s'):wpAny (model C.prog C.w) A t Q' E s:=
 wpAny_mono (h Q U) (λv s' ⟨b,z',F',af,q,X,S,r,g,o⟩=>k v s' b z' F' af q X S r g o) λ_ _ e=>e.elim
theorem Tr.test{t:Sem α}{b:Bool}{U X:DT (β×ES)}{R:Heap->List Addr->β->α->Prop}(V:b=true->Tr C A t s W R U)(h2:b=false->Tr C A t s W R X):Tr C A t s W R (.test b U X):=by
 intro Q Y
 cases b with
 |true=>exact V rfl Q (Y.1 rfl)
 |false=>exact h2 rfl Q (Y.2 rfl)
theorem Tr.fail{t:Sem α}{R:Heap->List Addr->β->α->Prop}:Tr C A t s W R (.fail:DT (β×ES)):=λQ h=>h.elim
theorem Tr.pure{v:α}{b:β}{R:Heap->List Addr->β->α->Prop}(S:SW C W z s)(r:R W.F W.ρ b v):Tr C A (pure v:Sem α) s W R (ak b z):=
 λQ U=>wpAny_pure (Po.here U S r rfl rfl)
theorem Tr.pre{t U:Sem α}{T:DT (β×ES)}{R:Heap->List Addr->β->α->Prop}(h:∀Q:α->Shared->Prop,wpAny (model C.prog C.w) A U Q (λ_ _=>False) s->wpAny (model C.prog C.w) A t Q (λ_ _=>False) s)(x:Tr C A U s W R T):Tr C A t s W R T:=
 λQ V=>h _ (x Q V)
end
section
variable{α β:Type}{P:DT (α×ES)->Prop}{z:ES}
theorem bP{b:Bool}{m n:EM α}(V:b=true->P (m z))(h2:b=false->P (n z)):P (bo b m n z):=by
 cases b
 ·exact h2 rfl
 ·exact V rfl
theorem mN{o:Option β}{f:β->EM α}{d:EM α}(h0:o=none->P (d z))(h:∀x,o=some x->P (f x z)):P (lT o f d z):=by
 cases o
 ·exact h0 rfl
 ·exact h _ rfl
theorem bI(hf:P .fail){o:Option β}{f:β->EM α}(h:∀x,o=some x->P (f x z)):P (bl o f z):=mN (d:=ae) (λ_=>hf) h
theorem rR(hf:P .fail){o:Option β}{m:EM α}(h:o=none->P (m z)):P (pT o m z):=mN (f:=λ_=>ae) h λ_ _=>hf
theorem vO(hf:P .fail){l:Nat}{f:List U->EM α}{d:EM α}(h:∀xs,z.os[l]?=some (.list xs)->P (f xs z))(hd:P (d z)):P (sT l f d z):=
 bI hf λo=>AO.casesOn o h (λ_ _=>hd) (λ_ _ _=>hd) (λ_ _=>hd) (λ_ _=>hd) (λ_=>hd) λ_=>hd
theorem iD(hf:P .fail){l:Nat}{f:List U->EM α}(h:∀xs,z.os[l]?=some (.list xs)->P (f xs z)):P (gL l f z):=vO hf h hf
theorem r9(hf:P .fail){l:Nat}{f:List (Str×U)->EM α}(h:∀es,z.os[l]?=some (.dict es)->P (f es z)):P (gD l f z):=
 bI hf λo=>AO.casesOn o (λ_ _=>hf) h (λ_ _ _=>hf) (λ_ _=>hf) (λ_ _=>hf) (λ_=>hf) λ_=>hf
theorem CK(hf:P .fail){l:Nat}{f:Option U->EM α}(h:∀v,z.os[l]?=some (.cell v)->P (f v z)):P (gC l f z):=
 bI hf λo=>AO.casesOn o (λ_ _=>hf) (λ_ _=>hf) (λ_ _ _=>hf) (λ_ _=>hf) h (λ_=>hf) λ_=>hf
theorem r_(hf:P .fail){l:Nat}{f:Addr->Nat->List (Str×U)->EM α}(h:∀C dl es,z.os[l]?=some (.inst C dl)->z.os[dl]?=some (.dict es)->P (f C dl es z)):P (gA l f z):=
 bI hf λo=>AO.casesOn o (λ_ _=>hf) (λ_ _=>hf) (λC dl e=>r9 hf (h C dl · e)) (λ_ _=>hf) (λ_ _=>hf) (λ_=>hf) λ_=>hf
theorem rS(hf:P .fail){k:AK}{a:EM α}{m:Addr->EM α}{v:U->EM α}(V:k= .absent->P (a z))(h2:∀f,k= .aU f->P (m f z))(h3:∀x,k= .val x->P (v x z)):P (nU k a m v z):=by
 cases k
 ·exact h2 _ rfl
 ·exact h3 _ rfl
 ·exact V rfl
 ·exact hf
theorem rt(hf:P .fail){o:List β}{m:EM α}(h:o=[]->P (m z)):P (iB o m z):=by
 cases o
 ·exact h rfl
 ·exact hf
theorem A'(hf:P .fail){o:List β}{f:β->EM α}(h:∀x,o=[x]->P (f x z)):P (kQ o f z):=by
 cases o with
 |nil=>exact hf
 |cons x r=>exact rt hf λe=>h x (e▸rfl)
theorem Ba(hf:P .fail){k:List (Str×U)->EM α}(h:∀es r,z.fs= .frame es::r->P (k es z)):P (r8 k z):=by
 unfold r8
 split
 ·exact h _ _ ‹_›
 ·exact hf
end
section
variable{α:Type}{F:Heap}{ρ:List Addr}{a:U}{v:Value}{Φ:Value->DT (α×ES)->Prop}{z:ES}
theorem ph(r:VR F ρ a v)(hf:∀v,Φ v .fail){f:Int->EM α}{g:Str->EM α}(h:∀i t,Φ (.int i t) (f i z))(h':∀x t,Φ (.str x t) (g x z)):Φ v (gN a f g z):=by
 induction r using VR.casesOn<;>first|exact h _ _|exact h' _ _|exact hf _
theorem nx(r:VR F ρ a v)(hf:∀v,Φ v .fail){f:Int->EM α}(h:∀i t,Φ (.int i t) (f i z)):Φ v (gI a f z):=ph (g:=λ_=>ae) r hf h λ_ _=>hf _
theorem m_(r:VR F ρ a v){f:Str->EM α}{d:EM α}(h:∀x t,Φ (.str x t) (f x z))(hd:Φ v (d z)):Φ v (nS a f d z):=by
 induction r using VR.casesOn<;>first|exact h _ _|exact hd
theorem pi(r:VR F ρ a v)(hf:∀v,Φ v .fail){f:Str->EM α}(h:∀x t,Φ (.str x t) (f x z)):Φ v (gS a f z):=m_ r h (hf _)
theorem ny(r:VR F ρ a v)(hf:∀v,Φ v .fail){f:Nat->EM α}(h:∀l x,ρ[l]?=some x->Φ (.ref x) (f l z)):Φ v (gO a f z):=by
 induction r using VR.casesOn<;>first|exact h _ _ ‹_›|exact hf _
theorem BP(r:VR F ρ a v){f:List U->EM α}{d:EM α}(h:∀xs x vs n,F.get? x=some {cls:= .type "tuple",data:= .seq vs.toArray n}->az F ρ xs vs->Φ (.ref x) (f xs z))(hd:Φ v (d z)):Φ v (xc a f d z):=by
 induction r using VR.casesOn<;>first|exact h _ _ _ _ ‹_› ‹_›|exact hd
theorem Ry(r:VR F ρ a v)(hf:∀v,Φ v .fail){f:List U->EM α}(h:∀xs x vs n,F.get? x=some {cls:= .type "tuple",data:= .seq vs.toArray n}->az F ρ xs vs->Φ (.ref x) (f xs z)):Φ v (gT a f z):=BP r h (hf _)
end
structure At(sc:Scope)(cl:CL)(env:Env)(W:Wh):Prop where
 scope:env.scope=sc
 kind:sc.kind= .function
 globals:env.globals=mainGlobals
 builtins:env.builtins=builtinsNs
 loc:W.φ[0]?=some env.locals
 cells:∀x l,lk x cl=some l->∃a,env.cells.lookup x=some a/\W.ρ[l]?=some a
theorem At.to{sc:Scope}{cl:CL}{env:Env}{W:Wh}{F':Heap}{af:List Addr}(H:At sc cl env W)(X:Ext W.F W.ρ F' af):At sc cl env (W.to F' af):=
 ⟨H.scope,H.kind,H.globals,H.builtins,H.loc,λx l e=>let⟨a,V,h2⟩:=H.cells x l e;⟨a,V,X.get h2⟩⟩
structure sb(C:Cx)(S:ST):Prop where
 glob:∀id av,S.glob id=some av->∃v,(C.mg id=some v\/(C.mg id=none/\C.mb id=some v))/\∀F ρ,gq C F->VR F ρ av v
section
variable{C:Cx}{A:Around}{S:ST}{sc:Scope}{cl:CL}{env:Env}{s:Shared}{W:Wh}{z:ES}
theorem MO{id:Str}(h:sEq id "__debug__"=false):(id==("__debug__":Str))=false:=by
 apply beq_eq_false_iff_ne.mpr
 intro e
 rw[sEq_iff.mpr e]at h;cases h
theorem SW.frame(X:SW C W z s){L:Addr}{es:List (Str×U)}{r:List AO}(e:z.fs= .frame es::r)(hL:W.φ[0]?=some L):∃m,s.heap.Ns L m/\∀x,iQ W.F W.ρ (lk x es) (m x):=by
 obtain⟨c,V,h2⟩:=X.rel.at_ (.f 0) (.frame es) L (by show z.fs[0]?=_;rw[e];rfl) hL rfl
 obtain⟨ds,n,hd,hk,hv⟩:=h2
 exact⟨nsFind ds,⟨c,ds,n,V,hd,hk,λ_=>rfl⟩,hv⟩
theorem SW.cellAt(Y:SW C W z s){l:Nat}{a:Addr}{v:Option U}(e:z.os[l]?=some (.cell v))(ha:W.ρ[l]?=some a):∃X,s.heap.IsCell a X/\iQ W.F W.ρ v X:=by
 obtain⟨c,V,X,h2,h3⟩:=Y.rel.at_ (.o l) (.cell v) a e ha rfl
 exact⟨X,⟨c,V,h2⟩,h3⟩
theorem SW.MP(U:SW C W z s){i:Ix}{o:AO}{a:Addr}(e:cell z.os z.fs i=some o)(ha:adr W.ρ W.φ i=some a)(hl:o.live=true):(a==sysModules)=false:=by
 obtain⟨o',V⟩:=U.base.sm
 apply beq_eq_false_iff_ne.mpr
 rintro rfl
 have:=U.rel.new i o _ e ha hl
 rw[V]at this;cases this
theorem iQ.vP{F:Heap}{ρ:List Addr}{av:U}{o:Option Value}(h:iQ F ρ (some av) o):∃v,o=some v/\VR F ρ av v:=by
 cases o with
 |none=>exact h.elim
 |some v=>exact⟨v,rfl,h⟩
theorem At.kindOf(H:At sc cl env W){id:Str}:env.kindOf id=lk id sc.names:=by
 rw[ua,<-H.scope];rfl
theorem At.inter(H:At sc cl env W):interactive env=false:=by
 unfold interactive
 rw[H.scope,H.kind];rfl
theorem At.nc(H:At sc cl env W):env.scope.kind= .function:=by rw[H.scope,H.kind]
theorem Gc(H:At sc cl env W){id:Str}(hk:lk id sc.names=some .globalImplicit):loadName env id=loadGlobal env id:=by
 have hb:env.blockKind= .function:=by
  unfold Env.blockKind
  rw[H.nc];rfl
 have ha:env.scope.kind.isAnnotationScope=false:=by
  rw[H.nc];rfl
 unfold loadName
 rw[ha,H.kindOf.trans hk,hb]
 rfl
theorem yE(T:sb C S){id:Str}(U:SW C W z s)(H:At sc cl env W):Tr C A (loadName env id) s W VR (m9 S sc cl id z):=by
 refine bP (λ_=>Tr.fail) λ_=>bI Tr.fail λZ hk=> ?_
 cases Z with
 |«local»=>
  refine Ba Tr.fail λes r J=>bI Tr.fail λav hv=> ?_
  obtain⟨m,hm,hr⟩:=SW.frame U J H.loc
  obtain⟨v,e,r⟩:=(hv▸hr id:iQ W.F W.ρ (some av) (m id)).vP
  exactλQ X=>wpAny_loadName_local H.nc (H.kindOf.trans hk) hm e (Po.here X U r rfl rfl)
 |globalImplicit=>
  refine bI Tr.fail λav K=> ?_
  obtain⟨v,hv,hr⟩:=T.glob id av K
  intro Q X
  have B:=U.here
  rw[Gc H hk]
  have Y:Po C W s VR Q v s:=Po.here X U (hr W.F W.ρ U.base) rfl rfl
  rcases hv with hv|⟨hn,hv⟩
  ·exact PySem.Calls.loadGlobal_global (env:=env) (mg:=C.mg) (H.globals▸B.g) hv Y
  ·exact PySem.Calls.loadGlobal_builtin (env:=env) (mg:=C.mg) (mb:=C.mb) (H.globals▸B.g) hn (H.builtins▸B.b) hv Y
 |cell=>
  refine bI Tr.fail λl L=>CK Tr.fail λv ho=>bI Tr.fail λav hv=> ?_
  subst hv
  obtain⟨a,V,h2⟩:=H.cells id l L
  obtain⟨N,h3,h4⟩:=U.cellAt ho h2
  obtain⟨v,rfl,r⟩:=h4.vP
  exactλQ X=>wpAny_loadName_cell H.nc (H.kindOf.trans hk) V h3 (Po.here X U r rfl rfl)
 |_=>exact Tr.fail
theorem tT(T:sb C S){id:Str}{p:Pos}(U:SW C W z s)(H:At sc cl env W):Tr C A (eval (.Name id p) env) s W VR (m9 S sc cl id z):=by
 cases hd:sEq id "__debug__"with
 |true=>exact bP (λ_=>Tr.fail) λe=>by rw[hd]at e;cases e
 |false=>exact Tr.pre (λQ h=>wpAny_Name h (MO hd)) (yE T U H)
theorem FC{c:Const}{k:Nat}{p:Pos}{env:Env}(V:SW C W z s):Tr C A (eval (.Constant c k p) env) s W VR (CG c z):=by
 cases c with
 |none=>exactλQ U=>wpAny_Constant_none (Po.here U V .none rfl rfl)
 |bool b=>exactλQ U=>wpAny_Constant_bool (Po.here U V .bool rfl rfl)
 |int i=>exactλQ U=>wpAny_Constant_int (Po.here U V .int rfl rfl)
 |str x=>exactλQ U=>wpAny_Constant_str (Po.here U V .str rfl rfl)
 |_=>exact Tr.fail
theorem tQ{id:Str}{av:U}{v:Value}(X:SW C W z s)(H:At sc cl env W)(r:VR W.F W.ρ av v):Tr C A (storeName env id v) s W RU (rp sc cl id av z):=by
 refine bI Tr.fail λZ hk=> ?_
 cases Z with
 |«local»=>
  refine Ba Tr.fail λes rest J=> ?_
  obtain⟨fs,os⟩:=z
  obtain rfl:fs=_:=J
  obtain⟨m,hm,hr⟩:=SW.frame X (es:=es) (r:=rest) rfl H.loc
  intro Q Y
  refine wpAny_storeName_local (H.kindOf.trans hk) hm (λh' hn hs=> ?_) (by
   rw[H.nc];rfl)
  obtain⟨o',ds,n,V,h2,h3,h4⟩:=hn
  refine Po.here (z:=⟨.frame (cV id av es)::rest,os⟩) Y ⟨X.base,X.rel.Cy (o:= .frame es) rfl H.loc hs V ⟨ds,n,h2,h3,λx=> ?_⟩⟩ trivial rfl rfl
  rw[AE,show nsFind ds x=if x=id then some v else m x from h4 x]
  by_cases hx:x=id
  ·rw[if_pos hx,if_pos hx];exact r
  ·rw[if_neg hx,if_neg hx];exact hr x
 |cell=>
  refine bI Tr.fail λl K=>CK Tr.fail λL ho=> ?_
  obtain⟨a,V,h2⟩:=H.cells id l K
  obtain⟨L,h3,h4⟩:=X.cellAt ho h2
  intro Q Y
  refine wpAny_storeName_cell H.nc (H.kindOf.trans hk) V h3 λh' hn hs=> ?_
  obtain⟨o',h5,N⟩:=hn
  exact Po.here (z:=⟨z.fs,z.os.set l (.cell (some av))⟩) Y ⟨X.base,X.rel.update ho rfl h2 hs h5 ⟨_,N,r⟩⟩ trivial rfl rfl
 |_=>exact Tr.fail
end
theorem HQ{a b:Str}:sEq a b=sEq b a:=Bool.eq_iff_iff.mpr (sEq_iff.trans (eq_comm.trans sEq_iff.symm))
theorem AH{a b:Str}:(a==b)=sEq a b:=Bool.eq_iff_iff.mpr (beq_iff_eq.trans sEq_iff.symm)
section
variable{P:Params}{F:Heap}{ρ:List Addr}
theorem str_is{x n:Str}{t:Tok}:(Value.str x t).isStr n=sEq n x:=AH.trans HQ
theorem bT.look(n:Str){es:List (Str×U)}{ds:List DictEntry}(h:bT P F ρ es ds):∃o,getL n ds=some o/\iQ F ρ (lk n es) o:=by
 induction h with
 |nil=>exact⟨none,rfl,trivial⟩
 |@cons x t av v es ds h _ ih=>
  have e1:lk n ((x,av)::es)=cond (sEq n x) (some av) (lk n es):=by
   show(match sEq n x with|true=>some av|false=>lk n es)=_
   cases sEq n x<;>rfl
  have e2:getL n (⟨PyData.keyHash P x, .str x t,v⟩::ds)=cond (sEq n x) (some (some v)) (getL n ds):=by
   unfold getL
   rw[List.find?_cons,show((⟨PyData.keyHash P x, .str x t,v⟩:DictEntry).key.isStr n)=sEq n x from str_is]
   cases sEq n x<;>rfl
  rw[e1,e2]
  cases sEq n x
  ·exact ih
  ·exact⟨some v,rfl,h⟩
theorem bT.put{n:Str}{a:U}{v:Value}{t:Tok}(h:VR F ρ a v){es:List (Str×U)}{ds:List DictEntry}(r:bT P F ρ es ds):bT P F ρ (cV n a es) (putL n (PyData.keyHash P n) (.str n t) v ds):=by
 induction r with
 |nil=>exact .cons h .nil
 |@cons x V av W es ds h' r ih=>
  have e1:cV n a ((x,av)::es)=cond (sEq n x) ((x,a)::es) ((x,av)::cV n a es):=by
   show(match sEq n x with|true=>(x,a)::es|false=>(x,av)::cV n a es)=_
   cases sEq n x<;>rfl
  have e3:putL n (PyData.keyHash P n) (.str n t) v (⟨PyData.keyHash P x, .str x V,W⟩::ds)=if(Value.str x V).isStr n then⟨PyData.keyHash P x, .str x V,v⟩::ds else⟨PyData.keyHash P x, .str x V,W⟩::putL n (PyData.keyHash P n) (.str n t) v ds:=rfl
  rw[e1,e3,str_is]
  cases sEq n x
  ·exact .cons h' ih
  ·exact .cons h r
theorem bT.Pa{es:List (Str×U)}{ds:List DictEntry}(h:bT P F ρ es ds):ds.toArray.any (·.refKey)=false:=by
 rw[List.any_toArray]
 induction h with
 |nil=>rfl
 |cons _ _ ih=>rw[List.any_cons,ih];rfl
theorem bT.length{es:List (Str×U)}{ds:List DictEntry}(h:bT P F ρ es ds):ds.length=es.length:=by
 induction h with
 |nil=>rfl
 |cons _ _ ih=>exact congrArg Nat.succ ih
theorem VR.handed{a:U}{v:Value}(h:VR F ρ a v):uQ a=true->handedIn v=true:=by
 induction h using VR.casesOn with
 |dat h=>cases h<;>first|exactλ_=>rfl|exactλe=>nomatch e
 |bi=>exactλe=>nomatch e
 |ce=>exactλe=>nomatch e
 |_=>exactλ_=>rfl
end
theorem HR(n:Str)(b:U)(es:List (Str×U)):(cV n b es).length<=es.length+1:=by
 have h:=congrArg List.length (t_ n b es)
 rw[List.length_map]at h
 rw[h]
 split<;>simp
structure vQ(K:Frag)(c:Addr):Prop where
 ga:findIn K (.ref c) "__getattribute__"=some (some (.builtin "object.__getattribute__"))
 gk:findIn K (.ref c) "__getattr__"=some none
 sa:findIn K (.ref c) "__setattr__"=some (some (.builtin "object.__setattr__"))
 hd:hasDictIn K c=true
 po:plainOver K c=true
structure lO(C:Cx)(S:ST):Prop where
 cls:∀c n,S.attr c n≠ .bad->vQ C.K c
 aU:∀c n f,S.attr c n= .aU f->findIn C.K (.ref c) n=some (some (.ref f))/\typeIn C.K (.ref f)=some (.type "function")/\specialIn C.K (.ref f) "__get__"=some (some (.builtin "function.__get__"))/\takesIn C.K (.ref f)=some false/\copiedNames.contains n=false
 val:∀c n a,S.attr c n= .val a->∃v,findIn C.K (.ref c) n=some (some v)/\specialIn C.K v "__get__"=some none/\handedIn v=true/\copiedNames.contains n=false/\∀F ρ,gq C F->VR F ρ a v
 absent:∀c n,S.attr c n= .absent->findIn C.K (.ref c) n=some none
theorem lO.cl{C:Cx}{S:ST}(T:lO C S){c:Addr}{n:Str}{k:AK}(e:S.attr c n=k)(h:k≠ .bad):vQ C.K c:=T.cls c n (e▸h)
section
variable{C:Cx}{A:Around}{S:ST}{s:Shared}{W:Wh}{z:ES}
inductive wj(W:Wh)(s:Shared)(a:Addr)(xs:List U):Prop
 |mk (vs:List Value) (n:Nat) (h:s.heap.get? a=some (listOf vs.toArray n)) (h':s.heap.IsList a vs.toArray) (r:az W.F W.ρ xs vs)
theorem gM(X:SW C W z s){xs:List U}{l:Nat}{a:Addr}(e:z.os[l]?=some (.list xs))(ha:W.ρ[l]?=some a):wj W s a xs:=by
 obtain⟨o,V,vs,n,rfl,h2⟩:=X.rel.at_ (.o l) _ a e ha rfl
 exact⟨vs,n,V,⟨_,V,rfl,n,rfl⟩,h2⟩
inductive Rz(C:Cx)(W:Wh)(s:Shared)(a:Addr)(es:List (Str×U)):Prop
 |mk (ds:List DictEntry) (n:Nat) (h:s.heap.get? a=some (dictOf ds n)) (r:bT C.w.params W.F W.ρ es ds) (nd:(es.map (·.1)).Nodup)
theorem q6(X:SW C W z s){es:List (Str×U)}{l:Nat}{a:Addr}(e:z.os[l]?=some (.dict es))(ha:W.ρ[l]?=some a):Rz C W s a es:=by
 obtain⟨o,V,ds,n,rfl,h2,h3⟩:=X.rel.at_ (.o l) _ a e ha rfl
 exact⟨ds,n,V,h2,h3⟩
structure IA(C:Cx)(W:Wh)(s:Shared)(c:Addr)(dl:Nat)(es:List (Str×U))(x dx:Addr)(ds:List DictEntry)(n:Nat):Prop where
 rd:W.ρ[dl]?=some dx
 ho:s.heap.get? x=some (instObj c dx)
 hd:s.heap.get? dx=some (dictOf ds n)
 E:bT C.w.params W.F W.ρ es ds
 nd:(es.map (·.1)).Nodup
variable{l dl:Nat}{c:Addr}{es:List (Str×U)}{x dx:Addr}{ds:List DictEntry}{n:Nat}
theorem q7(U:SW C W z s)(e:z.os[l]?=some (.inst c dl))(X:z.os[dl]?=some (.dict es))(hx:W.ρ[l]?=some x):∃dx ds n,IA C W s c dl es x dx ds n:=by
 obtain⟨o,V,dx,h2,rfl⟩:=U.rel.at_ (.o l) _ x e hx rfl
 obtain⟨ds,n,h3,h4,h5⟩:=q6 U X h2
 exact⟨dx,ds,n,h2,V,h3,h4,h5⟩
theorem IA.I(J:IA C W s c dl es x dx ds n):InstAt s.heap x (instObj c dx) c (some (dictOf ds n)):=⟨J.ho,rfl,rfl,J.hd⟩
theorem IA.look(J:IA C W s c dl es x dx ds n){k:Str}{a:U}(e:lk k es=some a):∃v,lookIn k (dictOf ds n)=some (some v)/\VR W.F W.ρ a v:=by
 obtain⟨o,h,r⟩:=J.E.look k
 rw[e]at r
 obtain⟨v,rfl,r⟩:=r.vP
 exact⟨v,h,r⟩
theorem IA.none(J:IA C W s c dl es x dx ds n){k:Str}(e:lk k es=none):lookIn k (dictOf ds n)=some none:=by
 obtain⟨o,h,r⟩:=J.E.look k
 rw[e]at r
 cases o with
 |none=>exact h
 |some v=>exact r.elim
inductive Fix(C:Cx)(W:Wh)(z:ES)(s s':Shared)(c:Obj):Prop
 |mk (F':Heap) (X:Ext W.F W.ρ F' W.ρ) (n:F'.get? s.heap.objs.size=some c) (S:SW C (W.to F' W.ρ) z s')
theorem SW.fix(U:SW C W z s){c:Obj}(V:c.isFreed=false){s':Shared}(hs:s'.heap=s.heap.push c):Fix C W z s s' c:=by
 obtain⟨F',k,n,R⟩:=U.rel.fix V
 exact⟨F',⟨k,[],by simp⟩,n,⟨U.base.keeps k,hs▸R⟩⟩
theorem yl(T:lO C S){a:U}{v:Value}{n:Str}{expr:Bool}(V:SW C W z s)(r:VR W.F W.ρ a v):Tr C A (getAttr v n expr) s W VR (qT S a n z):=by
 have L:=r
 refine ny (Φ:=λv T=>VR W.F W.ρ a v->Tr C A (getAttr v n expr) s W VR T) r (λ_ _=>Tr.fail) (λl x hx L=>r_ Tr.fail λc dl es ho hd=> ?_) L
 obtain⟨dx,ds,m,J⟩:=q7 V ho hd hx
 have K:=V.here.K
 refine rS Tr.fail (λha=>bI Tr.fail λb hl=>bP (λD=> ?_) λ_=>Tr.fail) (λf ha=>rR Tr.fail λhl=> ?_) λb ha=>rR Tr.fail λhl=> ?_
 ·have Y:=T.cl ha nofun
  obtain⟨v,hv,H⟩:=J.look hl
  exactλQ Z=>get_value K J.I Y.ga (findObj_own Y.hd (T.absent c n ha) rfl hv) (H.handed D) (Po.here Z V H rfl rfl)
 ·have Y:=T.cl ha nofun
  obtain⟨m1,m2,m3,N,G⟩:=T.aU c n f ha
  refineλQ Z=>get_bind K J.I Y.ga (findObj_fn Y.hd m1 m3 N G (J.none hl)) Y.gk
   (wpAny_call (fn_get (s:={s with toks:=s.toks+1}) K m2 (handed_on rfl ?_)))
  obtain⟨F',X,hn,E⟩:=SW.fix (s':={s with toks:=s.toks+1,heap:=s.heap.push (methodObj (.ref f) (.ref x))}) V (c:=methodObj (.ref f) (.ref x)) rfl rfl
  exact⟨_,z,F',W.ρ,Z,X,E, .aU hn (L.mono X),rfl,rfl⟩
 ·have Y:=T.cl ha nofun
  obtain⟨v,m1,m2,m3,N,G⟩:=T.val c n b ha
  exactλQ Z=>get_value K J.I Y.ga (findObj_cls Y.hd m1 m2 m3 N (J.none hl)) m3 (Po.here Z V (G W.F W.ρ V.base) rfl rfl)
theorem MQ(K:C.K.In s.heap)(J:IA C W s c dl es x dx ds n){k:Str}(Y:vQ C.K c)(V:findIn C.K (.ref c) k=some none){w:Value}{Q:Unit->Shared->Prop}{E:Value->Shared->Prop}(X:(putL k (PyData.keyHash C.w.params k) (.str k (s.toks+1)) w ds).length<=1000)
 (Z:∀(s':Shared) (n':Nat),s'.gens=s.gens->s'.os=s.os->Heap.SameBut dx s.heap s'.heap->s'.heap.get? dx=some (dictOf (putL k (PyData.keyHash C.w.params k) (.str k (s.toks+1)) w ds) n')->Q () s'):wpAny (model C.prog C.w) A (setAttr (.ref x) k w) Q E s:=by
 refine set_plain K J.I Y.sa (osa_open (s:={s with toks:=s.toks+1}) K J.I Y.po (r:=Option.none) (by unfold takerIn;rw[V];rfl) λG=> ?_)
 obtain⟨cd,L,N⟩:=any_some Y.hd
 refine wpAny_bind (wpAny_pure (wpAny_bind (wpAny_bind (wpAny_loadPart J.ho (wpAny_bind (looks_clsIn K L _ _ _ _ (λ_ _ e=>e) ?_))))))
 rw[N]
 refine wpAny_pure (a:=some dx) (wpAny_bind (wpAny_pure (wpAny_bind ?_)))
 unfold nsSet
 refine wpAny_bind (wpAny_bind (wpAny_askSetting (wpAny_pure (wpAny_bind (wpAny_mkText (wpAny_bind (wpAny_loadPart J.hd ?_)))))))
 dsimp only
 rw[aRefKeyMayBeTheName_at,show(!ds.toArray.any (·.key.isStr k)&&ds.toArray.any (·.refKey))=false from by rw[J.E.Pa];exact Bool.and_false _]
 have U:=Heap.get?_update_self (Obj.putName k (PyData.keyHash C.w.params k) (.str k (s.toks+1)) w) J.hd (by rw[putName_dict];rfl)
 rw[putName_dict]at U
 exact wpAny_updatePart J.hd (wpAny_bind (wpAny_lookBehind U (pastItsLine_dict (by rw[List.size_toArray,sizeLine_eq];exact Nat.le_trans X (by decide))) (wpAny_pure (Z _ _ rfl rfl (Heap.SameBut.update _ _ _) U))))
theorem ym(T:lO C S){a b:U}{v w:Value}{n:Str}(V:SW C W z s)(r:VR W.F W.ρ a v)(Y:VR W.F W.ρ b w):Tr C A (setAttr v n w) s W RU (uo S a n b z):=by
 refine ny (Φ:=λv T=>Tr C A (setAttr v n w) s W RU T) r (λ_=>Tr.fail) λl x hx=>r_ Tr.fail λc dl es ho hd=>rS Tr.fail (λha=>bP (λZ=> ?_) λ_=>Tr.fail) (λ_ _=>Tr.fail) λ_ _=>Tr.fail
 obtain⟨dx,ds,m,J⟩:=q7 V ho hd hx
 have X:=J.E.put (n:=n) (t:=s.toks+1) Y
 refineλQ L=>MQ V.here.K J (T.cl ha nofun) (T.absent c n ha) (X.length▸Nat.le_trans (HR n b es) (Nat.le_trans (Nat.succ_le_succ (Nat.le_of_ble_eq_true Z)) (by decide))) λs' n' N G hs H=> ?_
 exact Po.here (z:=⟨z.fs,z.os.set dl (.dict (cV n b es))⟩) L ⟨V.base,V.rel.update hd rfl J.rd hs H ⟨_,_,rfl,X,yD J.nd⟩⟩ trivial (N▸rfl) G
end
noncomputable abbrev aP:Value->Shared->Prop:=λ_ _=>False
noncomputable def Tp(C:Cx){α β:Type}(Φ:(α->Shared->Prop)->Prop)(s:Shared)(W:Wh)(R:Heap->List Addr->β->α->Prop)(T:DT (β×ES)):Prop:=
 ∀Q:β×ES->Prop,T.Holds Q->Φ (Po C W s R Q)
structure PT(α:Type)where
 w:(α->Shared->Prop)->Shared->Prop
 m:∀{Q Q':α->Shared->Prop} {s:Shared},(∀x s,Q x s->Q' x s)->w Q s->w Q' s
section
variable(C:Cx)(A:Around){α δ:Type}
noncomputable def pW(t:Sem α):PT α:=⟨λQ s=>wpAny (model C.prog C.w) A t Q aP s,λh q=>wpAny_mono q (λ_ _=>h _ _) λ_ _ e=>e⟩
noncomputable def pB(t:Sem α)(Ψ:α->PT δ):PT δ:=⟨λQ s=>wpAny (model C.prog C.w) A t (λv s=>(Ψ v).w Q s) aP s,λh q=>wpAny_mono q (λv _ q=>(Ψ v).m h q) λ_ _ e=>e⟩
noncomputable def pR(v:α):PT α:=⟨λQ s=>Q v s,λh q=>h _ _ q⟩
noncomputable def pF:PT α:=⟨λ_ _=>False,λ_ q=>q⟩
noncomputable def pI(b:Bool)(Φ Ψ:PT α):PT α:=⟨λQ s=>if b=true then Φ.w Q s else Ψ.w Q s,λh q=>by
 cases b
 ·exact Ψ.m h q
 ·exact Φ.m h q⟩
noncomputable def sV(t:Sem Value)(Ψ:Bool->PT δ):PT δ:=⟨λQ s=>wpAny (model C.prog C.w) A t (λv s=>∃b,v= .bool b/\(Ψ b).w Q s) aP s,λh q=>wpAny_mono q (λ_ _ q=>q.imp λb q=>⟨q.1,(Ψ b).m h q.2⟩) λ_ _ e=>e⟩
end
noncomputable abbrev Tq(C:Cx){α β:Type}(Φ:PT α)(s:Shared)(W:Wh)(R:Heap->List Addr->β->α->Prop)(T:DT (β×ES)):Prop:=Tp C (λQ=>Φ.w Q s) s W R T
section
variable{C:Cx}{A:Around}{α β γ δ:Type}{s:Shared}{W:Wh}{z:ES}
theorem Tp.fail{Φ:(α->Shared->Prop)->Prop}{R:Heap->List Addr->β->α->Prop}:Tp C Φ s W R (.fail:DT (β×ES)):=λQ h=>h.elim
theorem Tp.test{Φ:(α->Shared->Prop)->Prop}{b:Bool}{U X:DT (β×ES)}{R:Heap->List Addr->β->α->Prop}(V:b=true->Tp C Φ s W R U)(h2:b=false->Tp C Φ s W R X):Tp C Φ s W R (.test b U X):=by
 intro Q Y
 cases b with
 |true=>exact V rfl Q (Y.1 rfl)
 |false=>exact h2 rfl Q (Y.2 rfl)
theorem Tq.ret{v:α}{b:β}{R:Heap->List Addr->β->α->Prop}(S:SW C W z s)(r:R W.F W.ρ b v):Tq C (pR v) s W R (ak b z):=λQ U=>Po.here U S r rfl rfl
theorem Tq.run{Φ:PT α}{t:Sem α}{R:Heap->List Addr->β->α->Prop}{T:DT (β×ES)}(rule:∀Q,Φ.w Q s->wpAny (model C.prog C.w) A t Q aP s)(h:Tq C Φ s W R T):Tr C A t s W R T:=λQ U=>rule _ (h Q U)
theorem Tq.bind{Ψ:α->PT δ}{m:EM β}{k:β->EM γ}{t:Sem α}{R:Heap->List Addr->β->α->Prop}{U:Heap->List Addr->γ->δ->Prop}
 (V:Tr C A t s W R (m z))
 (h2:∀v s' b z' F' af,Ext W.F W.ρ F' af->SW C (W.to F' af) z' s'->R F' af b v->Tq C (Ψ v) s' (W.to F' af) U (k b z')):Tq C (pB C A t Ψ) s W U (bd m k z):=
 λQ Y=>V.out (DT.bK Y) λv s' b z' F' af q X S r g o=>(Ψ v).m (λ_ _=>Po.more X g o) (h2 v s' b z' F' af X S r Q q)
theorem Tq.map{m:EM β}{t:Sem α}{g:α->δ}{g':β->γ}{R:Heap->List Addr->β->α->Prop}{U:Heap->List Addr->γ->δ->Prop}
 (V:Tr C A t s W R (m z))(h2:∀F' af b v,Ext W.F W.ρ F' af->R F' af b v->U F' af (g' b) (g v)):Tq C (pB C A t λv=>pR (g v)) s W U (bd m (λb=>ak (g' b)) z):=
 .bind V λv s' b z' F' af X Y r=> .ret Y (h2 _ _ _ _ X r)
theorem Tq.ifs{m:EM Bool}{k1 k2:EM γ}{t:Sem Bool}{Y Z:PT δ}{U:Heap->List Addr->γ->δ->Prop}(V:Tr C A t s W RB (m z))
 (h2:∀s' z' F' af,Ext W.F W.ρ F' af->SW C (W.to F' af) z' s'->Tq C Y s' (W.to F' af) U (k1 z'))
 (h3:∀s' z' F' af,Ext W.F W.ρ F' af->SW C (W.to F' af) z' s'->Tq C Z s' (W.to F' af) U (k2 z')):Tq C (pB C A t λc=>pI c Y Z) s W U (bd m (λc=>aE c k1 k2) z):=
 .bind V λc s' b z' F' af X J hb=>by
  cases hb
  refine Tp.test (λe=> ?_) λe=> ?_
  ·subst e;exact h2 s' z' F' af X J
  ·subst e;exact h3 s' z' F' af X J
end
structure be(C:Cx)(A:Around)(sc:Scope)(cl:CL)(env:Env)(ih:IH):Prop where
 E:∀e W z s,SW C W z s->At sc cl env W->Tr C A (eval e env) s W VR (ih.E e z)
 T:∀e W z s,SW C W z s->At sc cl env W->Tr C A (isTrue e env (eval e env)) s W RB (ih.T e z)
 St:∀e W z s,SW C W z s->At sc cl env W->Tr C A (exec e env) s W RF (ih.St e z)
theorem mw{e:PySem.Expr}{r:List PySem.Expr}(h:noStar (e::r)=true):isStar e=false/\noStar r=true:=(Bool.and_eq_true_iff.mp h).imp (λh=>by
 have h:(!isStar e)=true:=h
 cases q:isStar e
 ·rfl
 ·rw[q]at h;cases h) id
section
variable{C:Cx}{A:Around}{S:ST}{sc:Scope}{cl:CL}{env:Env}{ih:IH}{s:Shared}{W:Wh}{z:ES}
theorem om{e:PySem.Expr}{r:List PySem.Expr}(h:isStar e=false):starEach (e::r) env=(false,eval e env)::starEach r env/\assignEach (e::r) env=(false,assign e env)::assignEach r env:=by
 cases e<;>first|exact⟨rfl,rfl⟩|cases h
theorem qF(I:be C A sc cl env ih){pos:Pos}{es:List PySem.Expr}:∀{W:Wh} {z:ES} {s:Shared},SW C W z s->At sc cl env W->Tr C A (spliced (backTo pos (starEach es env))) s W az (dw ih.E es z):=by
 induction es with
 |nil=>exactλU H Q V=>wpAny_items_nil (Po.here V U .nil rfl rfl)
 |cons e r next=>exactλU H=>bP (λ_=>Tr.fail) λhe=>Tq.run (Φ:=pB C A (eval e env) λv=>pB C A (spliced (backTo pos (starEach r env))) λvs=>pR (v::vs)) (λQ h=>wpAny_items_cons h (om he).1)<|
   (.bind (I.E e _ _ _ U H) λv s' b z' F' af X Y Z=> .map (next Y (H.to X)) λK L N G J r'=> .cons (Z.mono J) r')
theorem tP{es:List PySem.Expr}:noStar es=true->∀x∈starEach es env,x.1=false:=by
 induction es with
 |nil=>exactλ_=>nofun
 |cons e r ih=>
  intro h
  rw[(om (mw h).1).1]
  exact List.forall_mem_cons.mpr ⟨rfl,ih (mw h).2⟩
theorem n_{M:Model}{f:Value}{l:List (Bool×Sem Value)}{Q:Args->Shared->Prop}{E:Value->Shared->Prop}(hs:∀x∈l,x.1=false)
 (h:wpAny M A (spliced l) (λvs U=>Q ⟨vs,[]⟩ U) E s):wpAny M A (evalArgs f true l []) Q E s:=by
 cases l with
 |nil=>
  unfold evalArgs
  show wpAny M A (spliced []>>=_) Q E s
  exact wpAny_bind (wpAny_mono h (λvs s' h'=>wpAny_bind (wpAny_pure (wpAny_holding (wpAny_bind (wpAny_pure (wpAny_bind (wpAny_pure (wpAny_pure h')))))))) λ_ _ x=>x)
 |cons x r=>
  obtain⟨b,t⟩:=x
  cases hs (b,t) (.head _)
  exact PySem.Calls.evalArgs_plain h
theorem tR{pos:Pos}{l:List (Bool×Sem Value)}(h:∀x∈l,x.1=false):∀x∈backTo pos l,x.1=false:=List.forall_mem_map.mpr h
theorem qL{l:List (Bool×Sem Value)}(h:∀x∈l,x.1=false):l.any (·.1)=false:=List.any_eq_false.mpr λx hx=>Bool.eq_false_iff.mp (h x hx)
noncomputable def ba(C:Cx)(n:Nat)(call:Addr->List U->EM U):Prop:=
 ∀(A:Around),A.handled=none->A.depth+n<=900->A.units+8*n<=9000->∀(f:Addr) (args:List U) (vals:List Value) (W:Wh) (z:ES) (s:Shared),SW C W z s->az W.F W.ρ args vals->
  Tp C (λQ=>codeAny (model C.prog C.w) A (.call (.ref f) ⟨vals,[]⟩) (λr s'=>match r with| .ok (.ret v)=>Q v s'|_=>False) s) s W VR (call f args z)
structure uq(C:Cx)(S:ST):Prop where
 Tw:∀a,S.isFn a=true->fnIn C.K a=true
 keep:∀a,(S.isFn a||S.m8 a)=true->keepIn C.K (.ref a)=true
structure sd(A:Around)(n:Nat):Prop where
 handled:A.handled=none
 depth:A.depth+n<=900
 units:A.units+8*n<=9000
end
theorem oO{α:Type}{n:Str}{b:α}{l:List (Str×α)}(h:lk n l=some b):(n,b)∈l:=by
 induction l with
 |nil=>cases h
 |cons p r ih=>
  have h:(match sEq n p.1 with|true=>some p.2|false=>lk n r)=some b:=h
  cases q:sEq n p.1 with
  |true=>rw[q]at h;cases h;rw[sEq_iff.mp q];exact .head _
  |false=>rw[q]at h;exact .tail _ (ih h)
theorem DT.tU{α:Type}:∀{t:DT α},t.Holds (λ_=>False)->False
 | .leaf _,h=>h
 | .test b t f,h=>by cases b with
   |true=>exact tU (h.1 rfl)
   |false=>exact tU (h.2 rfl)
 | .fail,h=>h
noncomputable def RM(F:Heap)(ρ:List Addr)(c:U×List U)(v:Value×List Value):Prop:=VR F ρ c.1 v.1/\az F ρ c.2 v.2
section
variable{C:Cx}{A:Around}{S:ST}{sc:Scope}{cl:CL}{env:Env}{ih:IH}{s:Shared}{W:Wh}{z:ES}{α β γ δ:Type}
theorem Tp.Pb{Φ:(α->Shared->Prop)->Prop}{m:EM β}{R:Heap->List Addr->γ->α->Prop}{k:β->EM γ}(hk:∀b z,k b z= .fail):Tp C Φ s W R (bd m k z):=by
 intro Q U
 have h:=DT.bK (t:=m z) U
 exact(DT.tU (DT.Holds.mono (λr hr=>by rw[hk]at hr;exact hr) h)).elim
noncomputable def oY(n:Str)(i:String):Prop:=∀{M:Model} {A:Around} {v:Value} {x:Str} {t:Tok} {pl:Sem Bool} {s:Shared} {Q:Value×List Value->Shared->Prop} {E:Value->Shared->Prop},v= .str x t->Q (.builtin i,[v]) s->wpAny M A (getMethod v n pl) Q E s
theorem ms{n:Str}{i:String}(h:Slot "str" n i)(h':typeOf (.builtin i)=pure (.type "method_descriptor")):oY n i:=by
 intro M A v x t pl s Q E e q
 have hT:s.TypeIs v "str":=e▸typeIs_str _ _ _
 have hd:∀b,v= .ref b->∃o,s.heap.get? b=some o/\o.dict=none:=λb U=>by rw[e]at U;cases U
 with_reducible exact GM.of _ hT h h' hd q
theorem E7:∀p∈zU,oY p.1 p.2.id:=
 have c {n:Str} {b:BI} {i:String} {l:List (Str×BI)} (e:b.id=i) (a:oY n i) (k:∀p∈l,oY p.1 p.2.id):∀q∈(n,b)::l,oY q.1 q.2.id:=by
  subst e
  exact List.forall_mem_cons.mpr ⟨a,k⟩
 c (i:="str.lower") rfl (ms F.slot_str_lower F.type_str_lower) (c (i:="str.count") rfl (ms F.slot_str_count F.type_str_count) (c (i:="str.rfind") rfl (ms F.slot_str_rfind F.type_str_rfind) (c (i:="str.find") rfl (ms F.slot_str_find F.type_str_find) (c (i:="str.replace") rfl (ms F.slot_str_replace F.type_str_replace) (c (i:="str.split") rfl (ms F.slot_str_split F.type_str_split) (c (i:="str.join") rfl (ms F.slot_str_join F.type_str_join) (c (i:="str.startswith") rfl (ms F.slot_str_startswith F.type_str_startswith) (List.forall_mem_nil _))))))))
noncomputable def oZ(n:Str)(i:String):Prop:=∀{M:Model} {A:Around} {v:Value} {a:Addr} {vs:Array Value} {k:Nat} {pl:Sem Bool} {s:Shared} {Q:Value×List Value->Shared->Prop} {E:Value->Shared->Prop},v= .ref a->s.heap.get? a=some (listOf vs k)->Q (.builtin i,[v]) s->wpAny M A (getMethod v n pl) Q E s
theorem ml{n:Str}{i:String}(h:Slot "list" n i)(h':typeOf (.builtin i)=pure (.type "method_descriptor")):oZ n i:=by
 intro M A v a vs k pl s Q E hv e q
 have hT:s.TypeIs v "list":=hv▸⟨_,e,rfl⟩
 have hd:∀b,v= .ref b->∃o,s.heap.get? b=some o/\o.dict=none:=λb U=>by rw[hv]at U;cases U;exact⟨_,e,rfl⟩
 with_reducible exact getMethod_builtin hT F.plainAttrs_list h h' hd q
theorem EK:∀p∈zg,oZ p.1 p.2.id:=
 have c {n:Str} {b:BI} {i:String} {l:List (Str×BI)} (e:b.id=i) (a:oZ n i) (k:∀p∈l,oZ p.1 p.2.id):∀q∈(n,b)::l,oZ q.1 q.2.id:=by
  subst e
  exact List.forall_mem_cons.mpr ⟨a,k⟩
 c (i:="list.append") rfl (ml F.slot_list_append F.type_list_append) (c (i:="list.pop") rfl (ml F.slot_list_pop F.type_list_pop) (List.forall_mem_nil _))
theorem E8(T:lO C S){a:U}{v:Value}{n:Str}{pl:Sem Bool}(Z:SW C W z s)(r:VR W.F W.ρ a v):Tr C A (getMethod v n pl) s W RM (vM S a n z):=by
 have L:∀{b:BI} {w:Value} {Q:(U×List U)×ES->Prop},VR W.F W.ρ a w->Q ((.bi b,[a]),z)->Po C W s RM Q (.builtin b.id,[w]) s:=λr q=>Po.here q Z ⟨.bi, .one r⟩ rfl rfl
 refine m_ (Φ:=λw T=>VR W.F W.ρ a w->v=w->Tr C A (getMethod v n pl) s W RM T) r (λx t r e=>bI Tr.fail λb hk Q X=>E7 _ (oO hk) e (L (e▸r) X))
  (ny (Φ:=λw T=>VR W.F W.ρ a w->v=w->Tr C A (getMethod v n pl) s W RM T) r (λ_ _ _=>Tr.fail) λl x hx r e=>vO Tr.fail (λxs ho=>bI Tr.fail λb hk Q X=> ?_) (r_ Tr.fail λc dl es ho hd=> ?_)) r rfl
 ·obtain⟨vs,m,V,_,_⟩:=gM Z ho hx
  exact EK _ (oO hk) e V (L (e▸r) X)
 ·subst e
  obtain⟨dx,ds,m,J⟩:=q7 Z ho hd hx
  have K:=Z.here.K
  refine rS Tr.fail (λha=>bI Tr.fail λb hl=>bP (λH=> ?_) λ_=>Tr.fail) (λf ha=>rR Tr.fail λhl=> ?_) λ_ _=>Tr.fail
  ·have Y:=T.cl ha nofun
   have N:=T.absent c n ha
   obtain⟨v,hv,G⟩:=J.look hl
   exactλQ X=>method_usual K J.I Y.ga Y.gk N rfl (get_value K J.I Y.ga (findObj_own Y.hd N rfl hv) (G.handed H) (Po.here X Z ⟨G, .nil⟩ rfl rfl))
  ·have Y:=T.cl ha nofun
   obtain⟨m1,m2,m3,D,E⟩:=T.aU c n f ha
   exactλQ X=>method_fn K J.I Y.ga Y.gk m1 m2 (by
    show(lookIn n (dictOf ds m)).map (·.isSome)=_
    rw[J.none hl];rfl) (Po.here X Z ⟨.top, .one r⟩ rfl rfl)
theorem zV{A:Around}{f:Value}{vals:List Value}{Q:Value->Shared->Prop}(h:codeAny (model C.prog C.w) A (.call f ⟨vals,[]⟩) (λr s'=>match r with| .ok (.ret v)=>Q v s'|_=>False) s):wpAny (model C.prog C.w) A (PySem.call f vals) Q aP s:=
 wpAny_call (codeAny_mono h λr U q=>by
  rcases r with e|(v|_|_|_)<;>first|exact q.elim|exact q)
theorem ba.tr{n:Nat}{call:Addr->List U->EM U}(X:ba C n call)(V:sd A n){f:Addr}{args:List U}{vals:List Value}(Y:SW C W z s)(r:az W.F W.ρ args vals):Tr C A (PySem.call (.ref f) vals) s W VR (call f args z):=
 λQ Z=>zV (X A V.handled V.depth V.units f args vals W z s Y r Q Z)
theorem ba.Tx{n:Nat}{call:Addr->List U->EM U}(X:ba C n call)(V:sd A n){f p:Addr}{x:U}{v:Value}{args:List U}{vals:List Value}(ho:s.heap.get? p=some (methodObj (.ref f) v))(Y:SW C W z s)(Z:VR W.F W.ρ x v)(r:az W.F W.ρ args vals):Tr C A (PySem.call (.ref p) vals) s W VR (call f (x::args) z):=
 λQ J=>zV (method_call ho (X A V.handled V.depth V.units f _ _ W z s Y (.cons Z r) Q J))
theorem rT{t:Sem (List Value)}{V:Sem Value}{Y:Value}{Z:List Value}{k:List U->EM U}{es:List PySem.Expr}(P:Shared->Prop)
 (rule:∀Q,wpAny (model C.prog C.w) A t (λvs J=>P J/\wpAny (model C.prog C.w) A (PySem.call Y (Z++vs)) Q aP J) aP s->wpAny (model C.prog C.w) A V Q aP s)(K:Tr C A t s W az (dw ih.E es z))
 (h:∀vs s' b z' F' af,Ext W.F W.ρ F' af->SW C (W.to F' af) z' s'->az F' af b vs->P s'/\Tr C A (PySem.call Y (Z++vs)) s' (W.to F' af) VR (k b z')):Tr C A V s W VR (bd (dw ih.E es) k z):=by
 refineλQ L=>rule _ (K.out (DT.bK L) λvs s' b z' F' af q X S r g o=> ?_)
 obtain⟨p,x⟩:=h vs s' b z' F' af X S r
 exact⟨p,wpAny_mono (x Q q) (λ_ _=>Po.more X g o) λ_ _ e=>e⟩
theorem Ez{n:Nat}{call:Addr->List U->EM U}(I:be C A sc cl env ih)(D:ba C n call)(M:uq C S)(O:sd A n)
 (T:∀id args vals W z s,SW C W z s->az W.F W.ρ args vals->Tr C A (PySem.call (.builtin id.id) vals) s W VR (vK id args z))
 (R:∀id args vals W z s,SW C W z s->az W.F W.ρ args vals->Tr C A (PySem.call (.type id.id) vals) s W VR (vL id args z))
 {f:U}{first:List U}{Z:Value}{N:List Value}{pos:Pos}{es:List PySem.Expr}(q:noStar es=true)(y:SW C W z s)(H:At sc cl env W)(u:VR W.F W.ρ f Z)(J:az W.F W.ρ first N):
 Tr C A (callWith pos Z N (backTo pos (starEach es env)) []) s W VR (bd (dw ih.E es) (λvs=>cO S call f (first++vs)) z):=by
 have hp:=tR (pos:=pos) (tP (env:=env) q)
 have B:((backTo pos (starEach es env)).any (·.1)||([]:List (Option Str×Sem Value)).any (·.1.isNone))=false:=by rw[qL hp];rfl
 have L:=qF I (pos:=pos) (es:=es) y H
 have no:∀{Z:Value} {m:EM U},(∀b z,m z= .fail)->Tr C A (callWith pos Z N (backTo pos (starEach es env)) []) s W VR (bd (dw ih.E es) (λ_=>m) z):=λh=>Tp.Pb (Φ:=λQ=>wpAny (model C.prog C.w) A _ Q aP s) h
 induction u using VR.casesOn with
 |@top a=>
  show Tr C A _ s W VR (bd (dw ih.E es) (λvs=>bo (S.isFn a||S.m8 a) (call a (first++vs)) ae) z)
  cases G:(S.isFn a||S.m8 a)with
  |false=>exact no λ_ _=>rfl
  |true=>exact rT (λs=>C.K.In s.heap) (λQ h=>callWith_of (P:=λh=>C.K.In h) B (keeps_K (M.keep a G)) (n_ hp h)) L λvs s' b z' F' af X V Y=>⟨V.here.K,D.tr O V ((J.mono X).append Y)⟩
 |@bi id=>exact rT (λ_=>True) (λQ h=>PySem.Calls.callWith_builtin (qL hp) (n_ hp (wpAny_mono h (λ_ _ x=>x.2) λ_ _ e=>e))) L λvs s' b z' F' af X V Y=>⟨trivial,T id _ _ (W.to F' af) z' s' V ((J.mono X).append Y)⟩
 |@aU g x a v k hv=>
  show Tr C A _ s W VR (bd (dw ih.E es) (λvs=>bo (S.isFn g) (call g (x::(first++vs))) ae) z)
  cases G:S.isFn g with
  |false=>exact no λ_ _=>rfl
  |true=>exact rT (λs=>MethP C.K a g v s.heap) (λQ h=>callWith_of (P:=λh=>MethP C.K a g v h) B (keeps_M (M.Tw g G)) (n_ hp h)) L λvs s' b z' F' af X V Y=>
    have ho:=V.rel.keep _ _ (X.keep _ _ k)
    ⟨⟨ho,V.here.K⟩,D.Tx O ho V (hv.mono X) ((J.mono X).append Y)⟩
 |@ty id=>exact rT (λ_=>True) (λQ h=>PyProof.Rows.callWith_type (qL hp) (n_ hp (wpAny_mono h (λ_ _ x=>x.2) λ_ _ e=>e))) L λvs s' b z' F' af X V Y=>⟨trivial,R id _ _ (W.to F' af) z' s' V ((J.mono X).append Y)⟩
 |_=>exact no λ_ _=>rfl
end
theorem eQ{n:Nat}(h:fits n=true):n<=1000000:=Nat.le_of_ble_eq_true h
theorem mB:(2000000:Nat)<=sizeLine:=by rw[sizeLine_eq];decide
section
variable{F:Heap}{ρ:List Addr}{P:Params}
theorem VR.bZ{v:Value}{d:PyData}{as:List Addr}(h:Reads F v d as):VR F ρ (Mine.bZ d) v:=by
 induction h using Reads.casesOn with
 |none=>exact .none
 |bool=>exact .bool
 |int=>exact .int
 |str=>exact .str
 |list a b c d=>exact .dat (.list a b c d)
 |tuple a b c d=>exact .dat (.tuple a b c d)
 |dict a b c d e=>exact .dat (.dict a b c d e)
theorem az.bZ:∀{vs:List Value} {ds:List PyData} {as:List Addr},ReadsAll F vs ds as->az F ρ (ds.map Mine.bZ) vs
 |_,_,_, .nil=> .nil
 |_,_,_, .cons h r=> .cons (VR.bZ h) (az.bZ r)
end
inductive pj(h:Heap):Value->List Value->Prop
 |list {a:Addr} {vs:List Value}:h.IsList a vs.toArray->pj h (.ref a) vs
 |tup {a:Addr} {vs:List Value}:IsTup h a vs.toArray->pj h (.ref a) vs
section
variable{C:Cx}{A:Around}{S:ST}{s:Shared}{W:Wh}{z:ES}{α β γ:Type}
theorem toArr(vs:Array Value):vs.toList.toArray=vs:=by simp
inductive Dv(W:Wh)(s:Shared)(v:Value)(xs:List U):Prop
 |mk (vs:List Value) (hs:pj s.heap v vs) (r:az W.F W.ρ xs vs)
theorem wj.it{a:Addr}{xs:List U}:wj W s a xs->Dv W s (.ref a) xs
 |⟨vs,_,_,h,r⟩=>⟨vs, .list h,r⟩
theorem uT{P:DT (β×ES)->Prop}(hf:P .fail)(V:SW C W z s){a:U}{v:Value}(r:VR W.F W.ρ a v){k:List U->EM β}(h:∀xs,Dv W s v xs->P (k xs z)):P (itemsOf a k z):=by
 induction r using VR.casesOn with
 |dat d=>
  induction d using Reads.casesOn with
  |list e1 e2 e3 d=>exact h _ ⟨_, .list ⟨_,V.rel.keep _ _ e1,e2,_,by rw[e3,toArr]⟩,az.bZ d⟩
  |tuple e1 e2 e3 d=>exact h _ ⟨_, .tup ⟨_,V.rel.keep _ _ e1,e2,_,by rw[e3,toArr]⟩,az.bZ d⟩
  |_=>exact hf
 |tup e d=>exact h _ ⟨_, .tup ⟨_,V.rel.keep _ _ e,rfl,_,rfl⟩,d⟩
 |obj hx=>exact iD hf λxs ho=>h _ (gM V ho hx).it
 |_=>exact hf
theorem EC:typeLookup (.type "method") "__bool__"=pure none:=by rw[typeLookup_type,builtinLookup_eq_fast];kernel_rfl
theorem EL:typeLookup (.type "method") "__len__"=pure none:=by rw[typeLookup_type,builtinLookup_eq_fast];kernel_rfl
theorem empty_eq{xs:List U}{vs:List Value}(hl:vs.length=xs.length):(!vs.toArray.isEmpty)= !xs.isEmpty:=by
 rw[List.isEmpty_toArray]
 cases xs<;>cases vs<;>first|rfl|cases hl
inductive KV(F:Heap)(ρ:List Addr):List (Str×U)->List (Str×Value)->Prop
 |nil:KV F ρ [] []
 |cons {x:Str} {a:U} {v:Value} {es:List (Str×U)} {aY:List (Str×Value)}:VR F ρ a v->KV F ρ es aY->KV F ρ ((x,a)::es) ((x,v)::aY)
theorem KV.keys{F:Heap}{ρ:List Addr}:∀{es:List (Str×U)} {aY:List (Str×Value)},KV F ρ es aY->aY.map (·.1)=es.map (·.1)
 |_,_, .nil=>rfl
 |_,_, .cons _ r=>by simp[KV.keys r]
theorem KV.length{F:Heap}{ρ:List Addr}{es:List (Str×U)}{aY:List (Str×Value)}(h:KV F ρ es aY):aY.length=es.length:=by
 have:=congrArg List.length h.keys
 simpa using this
section
variable{prog:Program}{w:World}{F:Heap}{ρ:List Addr}
theorem bT.keysOf{es:List (Str×U)}{ds:List DictEntry}(h:bT w.params F ρ es ds):∀e∈ds,∃k,(strKind prog w).is k e.key=true/\e.hash=(strKind prog w).hash k:=by
 induction h with
 |nil=>exactλe h=>nomatch h
 |@cons x t _ _ _ _ _ r ih=>exact List.forall_mem_cons.mpr ⟨⟨x,strKind_is prog w x t,rfl⟩,ih⟩
theorem bT.pairs{es:List (Str×U)}{ds:List DictEntry}(h:bT w.params F ρ es ds):∃aY,Pairs (strKind prog w) ds aY/\KV F ρ es aY:=by
 induction h with
 |nil=>exact⟨[], .nil, .nil⟩
 |@cons x t av v es ds h r ih=>
  obtain⟨aY,p,q⟩:=ih
  exact⟨(x,v)::aY,Pairs.cons (kv:=(x,v)) (strKind_is prog w x t) rfl p,KV.cons h q⟩
theorem bT.back{ds:List DictEntry}{aY:List (Str×Value)}(h:Pairs (strKind prog w) ds aY):∀{es:List (Str×U)},(∀e∈ds,∃k,(strKind prog w).is k e.key=true/\e.hash=(strKind prog w).hash k)->KV F ρ es aY->bT w.params F ρ es ds:=by
 induction h with
 |nil=>intro es _ hk;cases hk;exact .nil
 |@cons e kv ds aY V h2 r ih=>
  obtain⟨x,v⟩:=kv
  intro es hk W
  cases W with
  |cons h q=>
   obtain⟨t,ht⟩:=Value.isStrOf_shape (show Value.isStrOf x e.key=true from V)
   obtain⟨k,k1,k2⟩:=hk e (.head _)
   have:k=x:=(strKind prog w).inj e.key k x k1 V
   subst this
   obtain⟨X,Z,ev⟩:=e
   dsimp only at ht k2 h2
   subst ht;subst h2
   have Y:X=PyData.keyHash w.params k:=k2
   subst Y
   exact .cons h (ih (λe he=>hk e (.tail _ he)) q)
theorem q8{h:Heap}{a:Addr}{es:List (Str×U)}{ds:List DictEntry}{n:Nat}(ho:h.get? a=some (dictOf ds n))(hE:bT w.params F ρ es ds)(hn:(es.map (·.1)).Nodup):∃aY,h.DictOf (strKind prog w) a aY/\KV F ρ es aY:=by
 obtain⟨aY,V,h2⟩:=bT.pairs (prog:=prog) hE
 exact⟨aY,⟨_,ds.toArray,n,ho,⟨rfl,rfl,rfl⟩,rfl,λe he=>bT.keysOf hE e (by simpa using he),by simpa using V,by rw[h2.keys];exact hn⟩,h2⟩
theorem zW{h:Heap}{a:Addr}{es:List (Str×U)}{aY:List (Str×Value)}(hd:h.DictOf (strKind prog w) a aY)(hk:KV F ρ es aY):∃ds n,h.get? a=some (dictOf ds n)/\bT w.params F ρ es ds/\(es.map (·.1)).Nodup:=by
 obtain⟨⟨cls,dict,data,slots⟩,ds,n,ho,⟨e1,e2,e3⟩,W,V,h2,h3⟩:=hd
 dsimp only at e1 e2 e3 W
 subst e1;subst e2;subst e3;subst W
 exact⟨ds.toList,n,by rw[ho],bT.back h2 (λe he=>V e (by simpa using he)) hk,by rw[<-hk.keys];exact h3⟩
theorem KV.put{k:Str}{a:U}{v:Value}(hv:VR F ρ a v){es:List (Str×U)}{aY:List (Str×Value)}(hk:KV F ρ es aY):(es.map (·.1)).Nodup->KV F ρ (cV k a es) (cond (aY.any λkv=>decide (kv.1=k)) (aY.map λkv=>if kv.1=k then(kv.1,v)else kv) (aY++[(k,v)])):=by
 induction hk with
 |nil=>exactλ_=> .cons hv .nil
 |@cons x V X es aY h q ih=>
  intro hn
  rw[List.map_cons,List.nodup_cons]at hn
  have ih:=ih hn.2
  have e1:cV k a ((x,V)::es)=cond (sEq k x) ((x,a)::es) ((x,V)::cV k a es):=by
   show(match sEq k x with|true=>(x,a)::es|false=>(x,V)::cV k a es)=_
   cases sEq k x<;>rfl
  rw[e1,List.any_cons,List.map_cons]
  by_cases hx:x=k
  ·subst hx
   rw[sEq_iff.mpr rfl,decide_eq_true rfl,if_pos rfl,map_store_of_not_mem aY x v (by rw[q.keys];exact hn.1)]
   exact .cons hv q
  ·rw[Bool.eq_false_iff.mpr λe=>hx (sEq_iff.mp e).symm,decide_eq_false hx,if_neg hx,Bool.false_or]
   cases W:aY.any λkv=>decide (kv.1=k)<;>rw[W]at ih<;>exact .cons h ih
theorem KV.stored{k:Str}{a:U}{v:Value}(hv:VR F ρ a v){es:List (Str×U)}{aY:List (Str×Value)}(hn:(es.map (·.1)).Nodup)(hk:KV F ρ es aY):KV F ρ (cV k a es) (stored aY k v):=by
 have h:=hk.put (k:=k) hv hn
 unfold PySem.stored
 split
 ·rename_i e;rw[e]at h;exact h
 ·rename_i e;rw[Bool.eq_false_iff.mpr e]at h;exact h
end
theorem q9{F:Heap}{vs:Array Value}{xs:List PyData}{as:List Addr}(d:ReadsAll F vs.toList xs as):vs.size=xs.length:=by
 have hl:=(az.bZ (ρ:=[]) d).length
 rw[List.length_map]at hl
 simpa using hl
theorem zh{vs:Array Value}{xs:List PyData}(h:vs.size=xs.length):(!vs.isEmpty)= !xs.isEmpty:=by
 unfold Array.isEmpty
 cases xs with
 |nil=>rw[decide_eq_true (by simpa using h)];rfl
 |cons x r=>rw[decide_eq_false (by rw[h];simp)];rfl
theorem Gd{i:Int}:(i !=0)=decide (i≠0):=by
 by_cases h:i=0<;>simp[h]
theorem Ge{x:Str}:((x.length:Int) !=0)=decide (x.length≠0):=by
 by_cases h:x.length=0
 ·rw[h];rfl
 ·rw[decide_eq_true h]
  exact bne_iff_ne.mpr λe=>h (Int.ofNat.inj e)
theorem ur{m n:Nat}(h:fits n=true)(e:m=n):(m:Int)<2^63:=Int.lt_of_le_of_lt (Int.ofNat_le.mpr (e▸eQ h)) (by decide)
theorem qx(R:A.handled=none){a:U}{v:Value}(X:SW C W z s)(r:VR W.F W.ρ a v):Tr C A (truthy v) s W RB (jg a z):=by
 have go:∀{m n:Nat} {b c:Bool} {v:Value},m=n->c=b->(∀{Q:Bool->Shared->Prop},(m:Int)<2^63->(∀k,Q c {s with toks:=s.toks+k})->wpAny (model C.prog C.w) A (truthy v) Q aP s)->Tr C A (truthy v) s W RB (aE (fits n) (ak b) ae z):=
  λe Z h=>Tr.test (λhf Q Y=>h (ur hf e) λ_=>Po.here (z:=z) Y X Z rfl rfl) λ_=>Tr.fail
 induction r using VR.casesOn with
 |none=>exactλQ Y=>truthy_none (Po.here Y X rfl rfl rfl)
 |bool=>exactλQ Y=>wpAny_truthy_bool (Po.here Y X rfl rfl rfl)
 |int=>exactλQ Y=>P.truthy_int (Po.here Y X Gd rfl rfl)
 |str=>exact go rfl Ge λhm q=>P.truthy_str (Int.not_le.mpr hm) (q 2)
 |tup e h=>exact go h.length (empty_eq h.length) λhm q=>PySem.W.ktl_truthy (X.rel.keep _ _ e) (Int.not_le.mpr hm) (q 2)
 |dat d=>
  induction d using Reads.casesOn with
  |list e1 e2 e3 d=>exact go (q9 d) (zh (q9 d)) λhm q=>wpAny_truthy_list ⟨_,X.rel.keep _ _ e1,e2,_,e3⟩ hm (q 2)
  |tuple e1 e2 e3 d=>exact go (q9 d) (zh (q9 d)) λhm q=>PyProof.Rows.truthy_tuple ⟨_,X.rel.keep _ _ e1,e2,_,e3⟩ hm (q 2)
  |_=>exact Tr.fail
 |aU e h=>
  have hT:s.TypeIs (.ref _) "method":=⟨_,X.rel.keep _ _ e,rfl⟩
  intro Q Y
  unfold truthy
  refine wpAny_bind (wpAny_callSpecial?_none (name:=Str.ofString "__bool__") hT EC ?_)
  refine wpAny_bind (wpAny_specialOf (name:=Str.ofString "__len__") hT EL ?_)
  exact wpAny_pure (Po.here Y X rfl rfl rfl)
 |@obj l x hx=>
  refine vO Tr.fail (λxs ho=> ?_) (r9 Tr.fail λes ho=> ?_)
  ·obtain⟨vs,n,V,h2,h3⟩:=gM X ho hx
   exact go h3.length (empty_eq h3.length) λhm q=>wpAny_truthy_list h2 hm (q 2)
  ·obtain⟨ds,n,h3,h4,h5⟩:=q6 X ho hx
   obtain⟨aY,k1,k2⟩:=q8 (prog:=C.prog) h3 h4 h5
   exact go (c:= !aY.isEmpty) k2.length (by cases k2<;>rfl) λhm q=>wpAny_truthy_dict (X.MP (i:= .o l) ho hx rfl) k1 hm (q 2)
 |_=>exact Tr.fail
end
noncomputable def PV.val(t:Tok):PV->Value
 | .none=> .none
 | .bool b=> .bool b
 | .int i=> .int i t
 | .str x=> .str x t
noncomputable def xg(v:Value):Option PV:=Value.casesOn v (some .none) Option.none Option.none (λb=>some (.bool b)) (λi _=>some (.int i)) (λ_ _=>Option.none) (λx _=>some (.str x)) (λ_ _=>Option.none) (λ_=>Option.none) (λ_=>Option.none) λ_=>Option.none
noncomputable def vEq(w v:Value):Bool:=(Option.casesOn (xg v) Option.none λp=>Option.casesOn (xg w) Option.none λq=>sS p q:Option Bool).getD false
theorem AI{t:Tok}{p:PV}:xg (p.val t)=some p:=by cases p<;>rfl
theorem KD{p q:PV}{t u:Tok}{r:Bool}(h:sS p q=some r):vEq (q.val u) (p.val t)=r:=by
 unfold vEq
 rw[AI,AI]
 exact congrArg (Option.getD · false) h
theorem fk{α β:Type}{o:Option α}{f:α->Option β}{b:β}(h:(Option.casesOn o none f:Option β)=some b):∃a,o=some a/\f a=some b:=by
 cases o with
 |none=>cases h
 |some a=>exact⟨a,rfl,h⟩
theorem uU{α β γ:Type}{f:α->β->γ}{o:Option α}{p:Option β}{c:γ}(h:pc f o p=some c):∃a b,o=some a/\p=some b/\f a b=c:=by
 obtain⟨a,e,h⟩:=fk h
 obtain⟨b,U,h⟩:=fk h
 exact⟨a,b,e,U,Option.some.inj h⟩
theorem uV{α:Type}[DecidableEq α]{x y:α}:(x==y)=decide (x=y):=by
 by_cases h:x=y
 ·rw[decide_eq_true h];exact beq_iff_eq.mpr h
 ·rw[decide_eq_false h];exact beq_eq_false_iff_ne.mpr h
theorem vm{x y:Str}:(x==y)=decide (x=y):=by
 by_cases h:x=y
 ·rw[decide_eq_true h];exact beq_iff_eq.mpr h
 ·rw[decide_eq_false h];exact beq_eq_false_iff_ne.mpr h
section
variable{C:Cx}{A:Around}{S:ST}{s:Shared}{W:Wh}{z:ES}{α β γ:Type}{F:Heap}{ρ:List Addr}
theorem rU{a:U}{v:Value}(r:VR F ρ a v){p:PV}:pv a=some p->∃t,v=p.val t:=by
 induction r using VR.casesOn<;>intro h<;>first|(cases h;done)|(cases h;exact⟨0,rfl⟩)|(cases h;exact⟨_,rfl⟩)
structure Dw(C:Cx)(A:Around)(s:Shared)(v w:Value)(r:Bool):Prop where
 eq:∀(Q:Value->Shared->Prop) E,Q (.bool r) s->wpAny (model C.prog C.w) A (compareOp .Eq v w) Q E s
 ne:∀(Q:Value->Shared->Prop) E,Q (.bool !r) s->wpAny (model C.prog C.w) A (compareOp .NotEq v w) Q E s
 at_:EqAt A.in1 s w v r
theorem MR{p q:PV}{r:Bool}{t u:Tok}(h:sS p q=some r):Dw C A s (p.val t) (q.val u) r:=by
 cases p with
 |none=>cases q with
  |none=>cases h;exact⟨λ_ _=>PySem.EqNone.eq_none_none,λ_ _=>PySem.EqNone.ne_none_none, .same _⟩
  |bool=>cases h
  |int=>cases h;exact⟨λ_ _=>PySem.EqNone.eq_none_int,λ_ _=>PySem.EqNone.ne_none_int, .int_none _ _⟩
  |str=>cases h;exact⟨λ_ _=>PySem.EqNone.eq_none_str,λ_ _=>PySem.EqNone.ne_none_str, .str_none _ _⟩
 |bool=>cases q with
  |bool=>cases h;exact⟨λ_ _=>eq_bool,λ_ _=>ne_bool,by rw[Bool.beq_comm];exact .bool_bool _ _⟩
  |_=>cases h
 |int=>cases q with
  |none=>cases h;exact⟨λ_ _=>PySem.EqNone.eq_int_none,λ_ _=>PySem.EqNone.ne_int_none, .none_int _ _⟩
  |bool=>cases h
  |int=>cases h;exact⟨λ_ _ q=>P.eq_int (by rw[uV];exact q),λ_ _ q=>P.ne_int (by rw[show∀x y:Int,(x !=y)= !(x==y)fromλ_ _=>rfl,uV];exact q),by rw[<-uV,BEq.comm];exact .int_int _ _ _ _⟩
  |str=>cases h;exact⟨λ_ _=>PySem.EqMixed.eq_int_str,λ_ _=>PySem.EqMixed.ne_int_str, .str_int _ _ _ _⟩
 |str=>cases q with
  |none=>cases h;exact⟨λ_ _=>PySem.EqNone.eq_str_none,λ_ _=>PySem.EqNone.ne_str_none, .none_str _ _⟩
  |bool=>cases h
  |int=>cases h;exact⟨λ_ _=>PySem.EqMixed.eq_str_int,λ_ _=>PySem.EqMixed.ne_str_int, .int_str _ _ _ _⟩
  |str=>cases h;exact⟨λ_ _ q=>eq_str (by rw[vm];exact q),λ_ _ q=>ne_str (by rw[show∀x y:Str,(x !=y)= !(x==y)fromλ_ _=>rfl,vm];exact q),by rw[<-vm,BEq.comm];exact .str_str _ _ _ _⟩
theorem vn{a b:U}{v w:Value}{r:Bool}(h:w9 a b=some r)(V:VR F ρ a v)(W:VR F ρ b w):Dw C A s v w r/\vEq w v=r:=by
 obtain⟨p,e,h⟩:=fk h
 obtain⟨q,X,h⟩:=fk h
 obtain⟨t,rfl⟩:=rU V e
 obtain⟨u,rfl⟩:=rU W X
 exact⟨MR h,KD h⟩
theorem HS(C:Cx){a:U}{v:Value}(W:VR F ρ a v){xs:List U}{vs:List Value}(h2:az F ρ xs vs):∀{r:Bool},rN a xs=some r->(∀y∈vs,EqAt A.in1 s y v (vEq y v))/\vs.any (λy=>vEq y v)=r:=
 h2.ind (m:=λxs vs=>∀{r:Bool},rN a xs=some r->(∀y∈vs,EqAt A.in1 s y v (vEq y v))/\vs.any (λy=>vEq y v)=r) (λh=>⟨λy hy=>(List.not_mem_nil hy).elim,Option.some.inj h⟩) λV _ ih r h=>by
  obtain⟨p,q,e1,e2,e⟩:=uU h
  obtain⟨k,e3⟩:=vn (C:=C) (A:=A) (s:=s) e1 W V
  obtain⟨m1,m2⟩:=ih e2
  exact⟨List.forall_mem_cons.mpr ⟨e3.symm▸k.at_,m1⟩,by rw[List.any_cons,e3,m2];exact e⟩
inductive NV:Value->Bool->Prop
 |none:NV .none true
 |bool (b:Bool):NV (.bool b) false
 |int (i:Int) (t:Tok):NV (.int i t) false
 |str (x:Str) (t:Tok):NV (.str x t) false
 |ref (a:Addr):NV (.ref a) false
theorem Bb{a:U}{v:Value}(r:VR F ρ a v){p:Bool}:w_ a=some p->NV v p:=by
 induction r using VR.casesOn<;>intro h<;>first|(cases h;done)|(cases h;constructor)
theorem Bc{a:U}{v:Value}(r:VR F ρ a v){b:Bool}(h:xa a=some b):v= .bool b:=by
 obtain⟨p,e,h⟩:=fk h
 obtain⟨t,rfl⟩:=rU r e
 cases p with
 |bool=>cases h;rfl
 |_=>cases h
theorem NV.at_{v:Value}{p:Bool}(h:NV v p):(p=true->v= .none)/\(plainIs v .none=true/\(v== .none)=p)/\plainIs .none v=true/\(.none==v)=p:=by
 cases h
 ·exact⟨λ_=>rfl,⟨rfl,rfl⟩,rfl,rfl⟩
 all_goals exact⟨λe=>Bool.noConfusion e,⟨rfl,rfl⟩,rfl,rfl⟩
theorem NV.or{v w:Value}{p q:Bool}(h:NV v p)(k:NV w q)(e:(p||q)=true):plainIs v w=true/\(v==w)=(p&&q):=by
 cases p with
 |true=>cases h.at_.1 rfl;exact k.at_.2.2
 |false=>cases q with
  |true=>cases k.at_.1 rfl;exact h.at_.2.1
  |false=>cases e
theorem ru{a b:U}{v w:Value}{r:Bool}(h:xb a b=some r)(W:VR F ρ a v)(X:VR F ρ b w):plainIs v w=true/\(v==w)=r:=by
 obtain⟨p,e1,h⟩:=fk h
 obtain⟨q,e2,h⟩:=fk h
 cases e:(p||q)with
 |true=>
  rw[e]at h
  cases h
  exact(Bb W e1).or (Bb X e2) e
 |false=>
  rw[e]at h
  obtain⟨x,y,V,h2,rfl⟩:=uU h
  rw[Bc W V,Bc X h2]
  exact⟨rfl,by cases x<;>cases y<;>rfl⟩
theorem uW{P:Params}{G h:Heap}{φ:List Addr}{aq:List (Addr×Obj)}{os fs:List AO}(R:Rel P F ρ φ aq os fs h)(k:∀b o,F.get? b=some o->G.get? b=some o)(g:∀(l:Nat) (o:AO) (a:Addr) (c:Obj),os[l]?=some o->o.live=true->ρ[l]?=some a->h.get? a=some c->G.get? a=some c)(n:Nat):
 (∀{a:U} {v:Value} {d:PyData},VR F ρ a v->cS os n a=some d->∃as,Reads G v d as)/\∀{xs:List U} {vs:List Value} {ds:List PyData},az F ρ xs vs->d9 os n xs=some ds->∃as,ReadsAll G vs ds as:=by
 induction n with
 |zero=>exact⟨nofun,nofun⟩
 |succ n ih=>
  refine⟨λ{a v d} r=> ?_,λ{xs vs ds} r=> ?_⟩
  ·induction r using VR.casesOn with
   |none=>exactλh=>by cases h;exact⟨_, .none⟩
   |bool=>exactλh=>by cases h;exact⟨_, .bool _⟩
   |int=>exactλh=>by cases h;exact⟨_, .int _ _⟩
   |str=>exactλh=>by cases h;exact⟨_, .str _ _⟩
   |dat r=>exactλh=>by cases h;exact⟨_,Reads.keeps k r⟩
   |tup e r=>
    intro h
    obtain⟨ds,q,rfl⟩:=Option.map_eq_some_iff.mp (show(d9 os n _).map PyData.tuple=some d from h)
    obtain⟨as,r⟩:=ih.2 r q
    exact⟨_, .tuple (k _ _ e) rfl rfl r⟩
   |@obj l a e=>
    intro h
    have h:(match os[l]?with|some (.list xs)=>(d9 os n xs).map PyData.list|_=>Option.none)=some d:=h
    cases ho:os[l]?with
    |none=>rw[ho]at h;cases h
    |some o=>
     rw[ho]at h
     cases o with
     |list xs=>
      obtain⟨ds,q,rfl⟩:=Option.map_eq_some_iff.mp h
      obtain⟨c,V,vs,m,rfl,h3⟩:=R.at_ (.o l) _ a ho e rfl
      obtain⟨as,r⟩:=ih.2 h3 q
      exact⟨_, .list (g l _ a _ ho rfl e V) rfl rfl r⟩
     |_=>cases h
   |_=>exactλh=>nomatch h
  ·induction r using az.casesOn with
   |nil=>exactλh=>by cases h;exact⟨_, .nil⟩
   |cons V h2=>
    intro h
    obtain⟨d,lm,e1,e2,rfl⟩:=uU h
    obtain⟨as,k1⟩:=ih.1 V e1
    obtain⟨bs,k2⟩:=ih.2 h2 e2
    exact⟨_, .cons k1 k2⟩
theorem yF(V:SW C W z s){n:Nat}{a:U}{v:Value}{d:PyData}(r:VR W.F W.ρ a v)(e:cS z.os n a=some d):∃as,Reads s.heap v d as:=(uW V.rel V.rel.keep (λ_ _ _ _ _ _ _ h=>h) n).1 r e
structure BQ(A:Around):Prop where
 handled:A.handled=none
 units:A.units+64<cLine
noncomputable abbrev RV:Heap->List Addr->Bool->Value->Prop:=λ_ _ b v=>v= .bool b
section
variable{a b:U}{v w:Value}{op:CmpOp}
theorem yv(f:Bool->Bool)(X:∀d e as bs (Q:Value->Shared->Prop),Reads s.heap v d as->Reads s.heap w e bs->shaped d=true->shaped e=true->Q (.bool (f (PyData.eqv d e))) s->wpAny (model C.prog C.w) A (compareOp op v w) Q aP s)
 (U:SW C W z s)(Y:VR W.F W.ρ a v)(Z:VR W.F W.ρ b w):Tr C A (compareOp op v w) s W RV (BK a b (λr=>ak (f r)) z):=
 bI Tr.fail λd V=>bI Tr.fail λe h2=>Tr.test (λhs Q J=>by
  obtain⟨as,k1⟩:=yF U Y V
  obtain⟨bs,k2⟩:=yF U Z h2
  exact X d e as bs _ k1 k2 (Bool.and_eq_true_iff.mp hs).1 (Bool.and_eq_true_iff.mp hs).2 (Po.here J U rfl rfl rfl)) λ_=>Tr.fail
theorem zi(f:Bool->Bool)(hs:∀{x y:Str} {t u:Tok} {Q:Value->Shared->Prop},Q (.bool (f (Txt.contains y x))) s->wpAny (model C.prog C.w) A (compareOp op (.str x t) (.str y u)) Q aP s)
 (hl:∀{l:Addr} {vs:Array Value} {Q:Value->Shared->Prop} (e:Value->Bool),s.heap.IsList l vs->(∀y,y∈vs->EqAt A.in1 s y v (e y))->Q (.bool (f (vs.any e))) s->wpAny (model C.prog C.w) A (compareOp op v (.ref l)) Q aP s)
 (ht:∀{l:Addr} {vs:Array Value} {Q:Value->Shared->Prop} (e:Value->Bool),s.heap.IsTuple l vs->(∀y,y∈vs->EqAt A.in1 s y v (e y))->Q (.bool (f (vs.any e))) s->wpAny (model C.prog C.w) A (compareOp op v (.ref l)) Q aP s)
 (U:SW C W z s)(X:VR W.F W.ρ a v)(Y:VR W.F W.ρ b w):Tr C A (compareOp op v w) s W RV (xd f a b z):=by
 refine m_ (Φ:=λw T=>Tr C A (compareOp op v w) s W RV T) Y (λy u=>pi (Φ:=λv T=>Tr C A (compareOp op v _) s W RV T) X (λ_=>Tr.fail) λx t Q V=>hs (Po.here V U rfl rfl rfl)) ?_
 refine uT Tr.fail U Y λxs ⟨vs,hv,r⟩=>bI Tr.fail λe q Q V=> ?_
 obtain⟨k1,k2⟩:=HS (A:=A) (s:=s) C X r q
 have g:Po C W s RV Q (.bool (f (vs.toArray.any λy=>vEq y v))) s:=by
  rw[List.any_toArray,k2]
  exact Po.here (b:=f e) V U rfl rfl rfl
 cases hv with
 |list h=>exact hl _ h (λy hy=>k1 y (List.mem_toArray.mp hy)) g
 |tup h=>exact ht _ h (λy hy=>k1 y (List.mem_toArray.mp hy)) g
theorem qI{fi:Int->Int->Bool}{fs:Str->Str->Bool}(hi:∀{i j:Int} {t u:Tok} {Q:Value->Shared->Prop},Q (.bool (fi i j)) s->wpAny (model C.prog C.w) A (compareOp op (.int i t) (.int j u)) Q aP s)
 (hs:∀{x y:Str} {t u:Tok} {Q:Value->Shared->Prop},Q (.bool (fs x y)) s->wpAny (model C.prog C.w) A (compareOp op (.str x t) (.str y u)) Q aP s)
 (V:SW C W z s)(Y:VR W.F W.ρ a v)(X:VR W.F W.ρ b w):Tr C A (compareOp op v w) s W RV (pe fi fs a b z):=
 ph (Φ:=λv T=>Tr C A (compareOp op v w) s W RV T) Y (λ_=>Tr.fail) (λi t=>nx (Φ:=λw T=>Tr C A (compareOp op _ w) s W RV T) X (λ_=>Tr.fail) λj u Q U=>hi (Po.here U V rfl rfl rfl))
  λx t=>pi (Φ:=λw T=>Tr C A (compareOp op _ w) s W RV T) X (λ_=>Tr.fail) λy u Q U=>hs (Po.here U V rfl rfl rfl)
theorem yG(R:BQ A)(X:SW C W z s)(U:VR W.F W.ρ a v)(V:VR W.F W.ρ b w):Tr C A (compareOp op v w) s W RV (ft op a b z):=by
 have Z:∀{r:Bool} {x:Value} {Q:Bool×ES->Prop},Q (r,z)->x= .bool r->Po C W s RV Q x s:=λq e=>Po.here q X e rfl rfl
 cases op with
 |Eq=>exact mN (λ_=>yv id (λd e as bs Q k1 k2 s1 s2 q=>eq_dataH k1 k2 s1 s2 R.units q) X U V) λr h Q Y=>(vn h U V).1.eq _ _ (Z Y rfl)
 |NotEq=>exact mN (λ_=>yv not (λd e as bs Q k1 k2 s1 s2 q=>ne_dataH k1 k2 s1 s2 R.units q) X U V) λr h Q Y=>(vn h U V).1.ne _ _ (Z Y rfl)
 |Is=>exact bI Tr.fail λr h Q Y=>wpAny_is_plain (ru h U V).1 (Z Y (congrArg Value.bool (ru h U V).2))
 |IsNot=>exact bI Tr.fail λr h Q Y=>wpAny_isNot_plain (ru h U V).1 (Z Y (congrArg (Value.bool !·) (ru h U V).2))
 |In=>exact zi id (λq=>SB.contains q) (λe=>in_listAt e) (λe=>in_tupleAt e) X U V
 |NotIn=>exact zi not (λq=>SB.notContains q) (λe=>notIn_listAt e) (λe=>notIn_tupleAt e) X U V
 |Lt=>exact qI (λq=>P.lt_int q) (λq=>P.lt_str q) X U V
 |LtE=>exact qI (λq=>P.le_int q) (λq=>P.le_str q) X U V
 |Gt=>exact qI (λq=>P.gt_int q) (λq=>P.gt_str q) X U V
 |GtE=>exact qI (λq=>P.ge_int q) (λq=>P.ge_str q) X U V
end
end
theorem yH{i:Int}{n:Nat}(h:cy i n=true):seqIndex? i n=some (place i n)/\place i n<n:=by
 unfold cy at h
 unfold seqIndex? place
 by_cases hi:i<0
 ·rw[if_pos hi]at h
  have h:=of_decide_eq_true h
  rw[if_pos hi,if_pos hi,if_pos (by rw[Bool.and_eq_true,decide_eq_true_eq,decide_eq_true_eq];omega)]
  exact⟨rfl,by omega⟩
 ·rw[if_neg hi]at h
  have h:=of_decide_eq_true h
  rw[if_neg hi,if_neg hi,if_pos (by rw[Bool.and_eq_true,decide_eq_true_eq,decide_eq_true_eq];omega)]
  exact⟨rfl,h⟩
theorem yI{α:Type}(xs:List α)(a:Nat):∀n:Nat,((List.range n).map (a+·)).filterMap (xs[·]?)=(xs.drop a).take n
 |0=>by simp
 |n+1=>by
  rw[List.range_succ,List.map_append,List.filterMap_append,yI xs a n]
  simp only[List.map_cons,List.map_nil]
  rw[List.take_add_one,List.getElem?_drop]
  congr 1
theorem zj{a b:Nat}:(if(a:Int)<b then((b:Int)-a+1-1)/1 else 0).toNat=b-a:=by
 split
 ·rw[Int.ediv_one,Int.add_sub_cancel,<-Int.toNat_sub]
 ·rename_i U
  rw[Nat.sub_eq_zero_of_le (Int.ofNat_le.mp (Int.not_lt.mp U))];rfl
theorem yJ{α:Type}(xs:List α)(a b:Nat):(sliceRange (a:Int) (b:Int) 1).filterMap (xs[·]?)=cut xs a b:=by
 unfold sliceRange cut
 rw[if_pos (by decide)]
 dsimp only
 rw[zj]
 have e2:((List.range (b-a)).map λ(k:Nat)=>((a:Int)+1*(k:Int)).toNat)=(List.range (b-a)).map (a+·):=
  List.map_congr_left λk _=>by rw[Int.one_mul];rfl
 rw[e2,yI,List.drop_take]
section
variable{C:Cx}{A:Around}{S:ST}{s:Shared}{W:Wh}{z:ES}{α β γ:Type}
theorem SW.tok(U:SW C W z s)(k:Nat):SW C W z {s with toks:=k}:=⟨U.base,U.rel⟩
theorem SW.alloc(U:SW C W z s){o:AO}{c:Obj}(V:c.isFreed=false)(ho:OR C.w.params W.F (W.ρ++[s.heap.objs.size]) o c){s':Shared}(hs:s'.heap=s.heap.push c):
 SW C (W.to W.F (W.ρ++[s.heap.objs.size])) ⟨z.fs,z.os++[o]⟩ s':=
 ⟨U.base,by rw[hs];exact U.rel.alloc V ho⟩
theorem lF(U:SW C W z s):(W.ρ++[s.heap.objs.size])[z.os.length]?=some s.heap.objs.size:=by
 rw[<-U.rel.len];simp
theorem Po.newList(V:SW C W z s){xs:List U}{vs:List Value}{n:Nat}{s':Shared}(hs:s'.heap=s.heap.push (listOf vs.toArray n))(X:C.gk s'.gens=C.gk s.gens)(ho:s'.os=s.os)(r:az W.F W.ρ xs vs){Q:U×ES->Prop}
 (q:Q (.obj z.os.length,⟨z.fs,z.os++[.list xs]⟩)):Po C W s VR Q (.ref s.heap.objs.size) s':=
 ⟨_,_,W.F,W.ρ++[s.heap.objs.size],q,Ext.push _ _ _,V.alloc (o:= .list xs) (c:=listOf vs.toArray n) rfl ⟨vs,n,rfl,r.mono (Ext.push _ _ _)⟩ hs, .obj (lF V),X,ho⟩
theorem ut{value slice:PySem.Expr}{o i:Value}{T id:String}{Q:Value->Shared->Prop}(hT:s.TypeIs o T)
 (hl:typeLookup (.type T) "__getitem__"=pure (some (.builtin id)))(h:wpAny (model C.prog C.w) A (getItem o i) Q aP s):wpAny (model C.prog C.w) A (subscriptTail value slice o i) Q aP s:=by
 unfold subscriptTail
 refine wpAny_bind ?_
 rw[getitemInPython_of_ne hT.not_modules]
 refine wpAny_bind (wpAny_specialOf hT hl ?_)
 have key:∀vs,wpAny (model C.prog C.w) A (operate vs (getItem o i)) (λr s₃=>wpAny (model C.prog C.w) A (letTemporaryGo value o r>>=λ_=>pure r) Q aP s₃) aP s:=
  λvs=>wpAny_operating (wpAny_mono h (λr s₃ U=>wpAny_bind (wpAny_letTemporaryGo (wpAny_pure U))) λ_ _ x=>x)
 refine wpAny_pure (wpAny_bind ?_)
 unfold subscripted
 split
 ·exact key _
 ·rename_i e;cases e
 ·exact key _
variable{op:Operator}{a b:U}{v w:Value}{f:Value->Value->Sem Value}
theorem uu{m n U n':Nat}(h:(fits m&&fits n)=true)(e:U=m)(V:n'=n):U+n'<=sizeLine:=by
 rw[Bool.and_eq_true]at h
 exact e▸V▸Nat.le_trans (Nat.add_le_add (eQ h.1) (eQ h.2)) mB
theorem pk(Y:SW C W z s)(V:VR W.F W.ρ a v)(X:VR W.F W.ρ b w){g:Int->Int->EM U}(h:∀{i j:Int} {t u:Tok},Tr C A (f (.int i t) (.int j u)) s W VR (g i j z)):Tr C A (f v w) s W VR (gI a (λi=>gI b λj=>g i j) z):=
 nx (Φ:=λv T=>Tr C A (f v w) s W VR T) V (λ_=>Tr.fail) λi t=>nx (Φ:=λw T=>Tr C A (f _ w) s W VR T) X (λ_=>Tr.fail) λj u=>h
theorem SW.int(V:SW C W z s){i:Int}{Q:U×ES->Prop}(X:Q (.int i,z)):Po C W s VR Q (.int i s.toks) {s with toks:=s.toks+1}:=Po.here X (V.tok _) .int rfl rfl
theorem yK(hi:∀{i j:Int} {t u:Tok} {Q:Value->Shared->Prop},Q (.int (i+j) s.toks) {s with toks:=s.toks+1}->wpAny (model C.prog C.w) A (f (.int i t) (.int j u)) Q aP s)
 (hs:∀{x y:Str} {t u:Tok} {Q:Value->Shared->Prop},(∀V k,Q (.str (x++y) V) {s with toks:=k})->x.length+y.length<=sizeLine->wpAny (model C.prog C.w) A (f (.str x t) (.str y u)) Q aP s)
 (X:SW C W z s)(Z:VR W.F W.ρ a v)(Y:VR W.F W.ρ b w):Tr C A (f v w) s W VR (wg a b z):=
 ph (Φ:=λv T=>Tr C A (f v w) s W VR T) Z (λ_=>Tr.fail) (λi t=>nx (Φ:=λw T=>Tr C A (f _ w) s W VR T) Y (λ_=>Tr.fail) λj u Q U=>hi (X.int U))
  λx t=>pi (Φ:=λw T=>Tr C A (f _ w) s W VR T) Y (λ_=>Tr.fail) λy u=>Tr.test (λhf Q U=>hs (λV k=>Po.here U (X.tok _) .str rfl rfl) (uu hf rfl rfl)) λ_=>Tr.fail
theorem az.nil_of{F:Heap}{ρ:List Addr}{xs:List U}{vs:List Value}(h:az F ρ xs vs)(e:vs.toArray.isEmpty=true):xs=[]:=by
 cases h with
 |nil=>rfl
 |cons=>cases e
theorem RA(Y:SW C W z s)(K:VR W.F W.ρ a v)(L:VR W.F W.ρ b w){d:EM U}(h:Tr C A (binaryOp .Add v w) s W VR (d z)):
 Tr C A (binaryOp .Add v w) s W VR (xc a (λxs=>gT b λys=>aE (fits xs.length&&fits ys.length) (ak (.tup (xs++ys))) ae) d z):=by
 refine BP (Φ:=λv T=>Tr C A (binaryOp .Add v w) s W VR T) K (λxs x vs n e1 V=>Ry (Φ:=λw T=>Tr C A (binaryOp .Add _ w) s W VR T) L (λ_=>Tr.fail) λys y ws m e2 h2=>Tr.test (λhf Q Z=> ?_) λ_=>Tr.fail) h
 have g1:=Y.rel.keep _ _ e1
 have g2:=Y.rel.keep _ _ e2
 by_cases z1:vs.toArray.isEmpty=true
 ·cases V.nil_of z1
  exact concat_meets ⟨_,g1,rfl⟩ ⟨_,g2,rfl⟩ noFill_tuple_add seq_tuple_add F.slot_tuple_add F.entry_tuple_add (F.args_tuple_add_2 _ _) (tuple_addW0 _ _ _ _ n m none none #[] #[] z1) ⟨g1,g2,Po.here Z Y (.tup e2 h2) rfl rfl⟩
 ·by_cases J:ws.toArray.isEmpty=true
  ·cases h2.nil_of J
   exact concat_meets ⟨_,g1,rfl⟩ ⟨_,g2,rfl⟩ noFill_tuple_add seq_tuple_add F.slot_tuple_add F.entry_tuple_add (F.args_tuple_add_2 _ _) (tuple_addW1 _ _ _ _ n m none none #[] #[] z1 J) ⟨g1,g2,Po.here Z Y ((List.append_nil xs).symm▸ .tup e1 V) rfl rfl⟩
  ·refine P.add_tuple g1 g2 z1 J ?_ (uu hf V.length h2.length)
   rw[List.append_toArray]
   obtain⟨F',X,hn,N⟩:=SW.fix (s':={s with heap:=s.heap.push {cls:= .type "tuple",data:= .seq (vs++ws).toArray}}) Y (c:={cls:= .type "tuple",data:= .seq (vs++ws).toArray}) rfl rfl
   exact⟨_,z,F',W.ρ,Z,X,N, .tup hn ((V.append h2).mono X),rfl,rfl⟩
theorem Pc{P:Params}{F:Heap}{ρ:List Addr}{β:Type}{Φ:Value->DT (β×ES)->Prop}(r:VR F ρ a v){f:Nat->EM β}{d:EM β}(h:∀l x,ρ[l]?=some x->Φ (.ref x) (f l z))(hd:Φ v (d z)):Φ v (Dp a f d z):=by
 induction r using VR.casesOn<;>first|exact h _ _ ‹_›|exact hd
theorem MS(V:SW C W z s)(Z:VR W.F W.ρ a v)(J:VR W.F W.ρ b w){d:EM U}(h:Tr C A (binaryOp .Add v w) s W VR (d z)):Tr C A (binaryOp .Add v w) s W VR (CD a b d z):=by
 refine Pc (P:=C.w.params) (Φ:=λv T=>Tr C A (binaryOp .Add v w) s W VR T) Z (λl x hx=>ny (Φ:=λw T=>Tr C A (binaryOp .Add _ w) s W VR T) J (λ_=>Tr.fail) λG y hy=>iD Tr.fail λxs ho=>iD Tr.fail λys K=>Tr.test (λhf Q L=> ?_) λ_=>Tr.fail) h
 obtain⟨vs,n,k1,k2,X⟩:=gM V ho hx
 obtain⟨ws,m,N,H,Y⟩:=gM V K hy
 refine P.add_list (items:=vs.toArray) (items2:=ws.toArray) k1 N ?_ (uu hf (by rw[List.size_toArray,X.length]) (by rw[List.size_toArray,Y.length]))
 rw[List.append_toArray]
 exact Po.newList (s':={s with heap:=s.heap.push {cls:= .type "list",data:= .seq (vs++ws).toArray}}) (n:=0) V rfl rfl rfl (X.append Y) L
theorem AJ{j:Int}(h:(!(j==0))=true):¬(j==0)=true:=λe=>by rw[e]at h;cases h
theorem FD(U:SW C W z s)(V:VR W.F W.ρ a v)(X:VR W.F W.ρ b w):Tr C A (binaryOp op v w) s W VR (jn op a b z):=by
 cases op with
 |Add=>exact RA U V X (MS U V X<|yK (f:=binaryOp .Add) (λq=>P.add_int q) (λq e=>SB.add q e) U V X)
 |Sub=>exact pk (f:=binaryOp .Sub) U V X λQ Y=>P.sub_int (U.int Y)
 |Mult=>exact pk (f:=binaryOp .Mult) U V X (Tr.test (λhf Q Y=>P.mul_int (U.int Y) (.of_left (intBits_le_iff.mpr (by
   have:=eQ hf
   exact Nat.lt_of_le_of_lt this (by decide))))) λ_=>Tr.fail)
 |Mod=>exact pk (f:=binaryOp .Mod) U V X (Tr.test (λhf Q Y=>AutoIntOps.mod_1 (AJ hf) (U.int Y)) λ_=>Tr.fail)
 |FloorDiv=>exact pk (f:=binaryOp .FloorDiv) U V X (Tr.test (λhf Q Y=>by
   rw[Bool.and_eq_true]at hf
   exact AutoIntOps.floordiv_1 (AJ hf.1) (by rw[PyProof.noPylong_small (by have:=eQ hf.2;omega)];decide) (U.int Y)) λ_=>Tr.fail)
 |_=>exact Tr.fail
theorem E9(U:SW C W z s)(V:VR W.F W.ρ a v)(X:VR W.F W.ρ b w):Tr C A (inplaceOp op v w) s W VR (oX op a b z):=by
 cases op with
 |Add=>exact yK (f:=inplaceOp .Add) (λq=>P.iadd_int q) (λq e=>SB.iadd q e) U V X
 |Sub=>exact pk (f:=inplaceOp .Sub) U V X λQ Y=>P.isub_int (U.int Y)
 |_=>exact Tr.fail
theorem FE(U:SW C W z s)(V:VR W.F W.ρ a v):Tr C A (unaryOp .USub v) s W VR (CH a z):=
 nx (Φ:=λv T=>Tr C A (unaryOp .USub v) s W VR T) V (λ_=>Tr.fail) λi t Q X=>P.neg_int (U.int X)
end
section
variable{n d:Nat}{lo hi b:Option Int}
theorem MT(hd:d<=n):d_ n d b<=n:=by
 cases b with
 |none=>exact hd
 |some i=>
  show(if i<0 then(i+n).toNat else min i.toNat n)<=n
  split
  ·lia
  ·exact Nat.min_le_right _ _
theorem clip{i:Int}{n:Nat}:max 0 (min (if i<0 then i+(n:Int)else i) (n:Int))=((if i<0 then(i+n).toNat else min i.toNat n:Nat):Int):=by
 split
 ·rename_i h
  rw[Int.min_eq_left (Int.add_le_of_le_sub_right ((Int.sub_self _).symm▸Int.le_of_lt h)),Int.max_comm,Int.toNat_eq_max]
 ·rename_i h
  have h:=Int.not_lt.mp h
  obtain⟨k,rfl⟩:=Int.eq_ofNat_of_zero_le h
  rw[Int.toNat_natCast]
  exact(Int.max_eq_right (Int.le_min.mpr ⟨h,Int.natCast_nonneg _⟩)).trans (by rw[Nat.min_def,Int.min_def];split<;>split<;>lia)
theorem uc:sliceBounds lo hi none n=((d_ n 0 lo:Int),(d_ n n hi:Int),1):=by
 cases lo<;>cases hi
 ·rfl
 ·exact Prod.ext rfl (Prod.ext clip rfl)
 ·exact Prod.ext clip rfl
 ·exact Prod.ext clip (Prod.ext clip rfl)
theorem FF:Builtin.Str.strSliceIndices lo hi 1 n=sliceRange (d_ n 0 lo:Int) (d_ n n hi:Int) 1:=
 have e:=(Prod.mk.inj (uc (n:=n) (lo:=lo) (hi:=hi)))
 have h:Builtin.Str.strSliceIndices lo hi 1 n=sliceRange (sliceBounds lo hi none n).1 (sliceBounds lo hi none n).2.1 1:=by cases lo<;>cases hi<;>rfl
 h.trans (by rw[uc])
theorem Gf{a b:Nat}:(sliceRange (a:Int) (b:Int) 1).length=b-a:=by
 unfold sliceRange
 rw[if_pos (by decide),List.length_map,List.length_range]
 exact zj
theorem Gg{x:Str}:(if((1:Int)==1&&(Builtin.Str.strSliceIndices lo hi 1 x.length).length==x.length)=true then x
 else⟨((Builtin.Str.strSliceIndices lo hi 1 x.length).filterMap (x.cps[·]?)).toArray⟩)=aV x (d_ x.length 0 lo) (d_ x.length x.length hi):=by
 have hb:d_ x.length x.length hi<=x.length:=MT (Nat.le_refl _)
 rw[FF]
 generalize d_ x.length 0 lo=a at*
 generalize d_ x.length x.length hi=b at*
 have e:(sliceRange (a:Int) (b:Int) 1).filterMap (x.cps[·]?)=cut x.cps.toList a b:=by
  rw[<-yJ x.cps.toList a b]
  congr 1
  funext i
  exact Array.getElem?_toList.symm
 rw[e]
 unfold aV
 split
 ·rename_i h
  rw[Gf]at h
  have h:b-a=x.length:=eq_of_beq h
  have hl:x.cps.toList.length=x.length:=Array.length_toList
  show x=⟨((x.cps.toList.take b).drop a).toArray⟩
  rcases Nat.eq_zero_or_pos x.length with z|z
  ·obtain⟨⟨l⟩⟩:=x
   cases l with
   |nil=>rw[List.take_nil,List.drop_nil]
   |cons=>cases z
  ·have ha:a=0:=by lia
   have U:b=x.length:=by lia
   rw[ha,U,<-hl,List.take_length,List.drop_zero]
 ·rfl
end
section
variable{C:Cx}{A:Around}{S:ST}{s:Shared}{W:Wh}{z:ES}{α β γ:Type}{F:Heap}{ρ:List Addr}
theorem q_{a:U}{v:Value}{b:Option Int}(r:VR F ρ a v)(h:xe a=some b):IsPart v b/\∃p:Option (Int×Tok),v=partValue p/\p.map (·.1)=b:=by
 obtain⟨p,e,h⟩:=fk h
 obtain⟨t,rfl⟩:=rU r e
 cases p with
 |none=>cases h;exact⟨.none,none,rfl,rfl⟩
 |int i=>cases h;exact⟨.int _ _,some (i,t),rfl,rfl⟩
 |_=>cases h
theorem az.cut{xs:List U}{vs:List Value}(h:az F ρ xs vs)(a b:Nat):az F ρ (Mine.cut xs a b) (Mine.cut vs a b):=(h.take b).drop a
theorem Gh{vs:List Value}{lo hi:Option Int}:slicePick vs.toArray lo hi none=(cut vs (d_ vs.length 0 lo) (d_ vs.length vs.length hi)).toArray:=by
 unfold slicePick
 rw[List.size_toArray,uc]
 congr 1
 rw[<-yJ vs]
 congr 1
 funext i
 exact List.getElem?_toArray
variable{value:PySem.Expr}{lower upper:Option PySem.Expr}{p:Pos}{sl:Addr}{vl vu:Value}{a b:Option Int}
theorem FG{xs:List U}{vs:List Value}{x:Addr}(V:SW C W z s)(hl:s.heap.IsList x vs.toArray)(r:az W.F W.ρ xs vs)(hs:s.heap.IsSliceOf sl vl vu .none)(X:IsPart vl a)(Y:IsPart vu b):
 Tr C A (subscriptTail value (.Slice lower upper none p) (.ref x) (.ref sl)) s W VR (wh xs a b z):=by
 unfold wh
 refine Tr.test (λhf Q Z=> ?_) λ_=>Tr.fail
 have e:=r.length
 refine ut (T:="list") hl.typeIs slot_list_getitem.lookup (wpAny_getItem_list_slice hl hs X Y .none (λh=>nomatch h) ?_ (by rw[List.size_toArray,e];exact Nat.le_trans (Nat.le_trans (eQ hf) (by decide)) mB))
 rw[Gh,e]
 exact Po.newList (s':={s with heap:=s.heap.push {cls:= .type "list",data:= .seq (cut vs _ _).toArray}}) (n:=0) V rfl rfl rfl (r.cut _ _) Z
theorem MU{P:DT (β×ES)->Prop}(hf:P .fail)(X:SW C W z s){a:U}{v:Value}(r:VR W.F W.ρ a v){k:List U->EM β}(h:∀xs vs x,v= .ref x->s.heap.IsList x vs.toArray->az W.F W.ρ xs vs->P (k xs z)):P (CF a k z):=by
 induction r using VR.casesOn with
 |dat d=>
  induction d using Reads.casesOn with
  |list e1 e2 e3 d=>exact h _ _ _ rfl ⟨_,X.rel.keep _ _ e1,e2,_,by rw[e3,toArr]⟩ (az.bZ d)
  |_=>exact hf
 |obj hx=>
  refine iD hf λxs ho=> ?_
  obtain⟨vs,n,V,h2,h3⟩:=gM X ho hx
  exact h _ _ _ rfl h2 h3
 |_=>exact hf
theorem EP{x lo hi:U}{v:Value}(V:SW C W z s)(X:VR W.F W.ρ x v)(hs:s.heap.IsSliceOf sl vl vu .none)(Y:VR W.F W.ρ lo vl)(Z:VR W.F W.ρ hi vu):
 Tr C A (subscriptTail value (.Slice lower upper none p) v (.ref sl)) s W VR (oL x lo hi z):=by
 refine bI Tr.fail λa ha=>bI Tr.fail λb hb=>m_ (Φ:=λv T=>Tr C A (subscriptTail value (.Slice lower upper none p) v (.ref sl)) s W VR T) X (λy t=>Tr.test (λhf Q J=> ?_) λ_=>Tr.fail) (MU Tr.fail V X λxs vs l e hl r=>e▸FG V hl r hs (q_ Y ha).1 (q_ Z hb).1)
 obtain⟨_,p1,rfl,e1⟩:=q_ Y ha
 obtain⟨_,p2,rfl,e2⟩:=q_ Z hb
 have K:s.heap.IsSlice sl p1 p2 none:=hs
 refine ut (T:="str") (typeIs_str s y t) F.slot_str_getitem.lookup (wpAny_getItem_str_slice K rfl ?_)
 unfold sliceMade slicePicked
 rw[e1,e2]
 have L:(aV y (d_ y.length 0 a) (d_ y.length y.length b)).length<=y.length:=by
  show(List.drop _ (List.take _ y.cps.toList)).toArray.size<=y.cps.size
  rw[List.size_toArray,List.length_drop,List.length_take,Array.length_toList]
  exact Nat.le_trans (Nat.sub_le _ _) (Nat.min_le_right _ _)
 exact post_val_or_str (s:=s) (c:=((1:Int)==1&&(Builtin.Str.strSliceIndices a b 1 y.length).length==y.length)=true) (y:=y) (t:=t)
  (z:=⟨((Builtin.Str.strSliceIndices a b 1 y.length).filterMap (y.cps[·]?)).toArray⟩) (Q:=Po C W s VR Q) (by
   rw[Gg]
   exact⟨Nat.le_trans L (Nat.le_trans (eQ hf) (Nat.le_trans (by decide) mB)),λN k=>Po.here J (V.tok k) .str rfl rfl⟩)
end
structure mK(C:Cx)(S:ST):Prop where
 at_:∀a es,S.ip a=some es->∀F ρ,gq C F->∃aY,F.DictOf (strKind C.prog C.w) a aY/\KV F ρ es aY
theorem KV.value{F:Heap}{ρ:List Addr}{k:Str}{a:U}{es:List (Str×U)}{aY:List (Str×Value)}(h:KV F ρ es aY):lk k es=some a->∃v,valueAt aY k=some v/\VR F ρ a v:=by
 induction h with
 |nil=>intro h;cases h
 |@cons x b v es aY h q ih=>
  intro hk
  have e:lk k ((x,b)::es)=cond (sEq k x) (some b) (lk k es):=by
   show(match sEq k x with|true=>some b|false=>lk k es)=_
   cases sEq k x<;>rfl
  rw[e]at hk
  unfold valueAt
  rw[List.find?_cons]
  cases hs:sEq k x with
  |true=>
   rw[hs]at hk
   cases hk
   rw[show decide (x=k)=true from decide_eq_true (sEq_iff.mp hs).symm]
   exact⟨v,rfl,h⟩
  |false=>
   rw[hs]at hk
   rw[show decide (x=k)=false from decide_eq_false λe=>by rw[e,sEq_iff.mpr rfl]at hs;cases hs]
   exact ih hk
inductive xh(i:Int)(n:Nat):Prop
 |neg (h:i<0) (V:-(n:Int)<=i) (h2:-(2^63:Int)<=i) (e:place i n=(i+n).toNat)
 |pos (h:0<=i) (V:i<n) (h2:i<2^63) (e:place i n=i.toNat)
theorem xi{i:Int}{n:Nat}(h:cy i n=true)(hf:n<=1000000):xh i n:=by
 unfold cy at h
 by_cases hi:i<0
 ·rw[if_pos hi]at h
  have h:=of_decide_eq_true h
  exact .neg hi (by omega) (by omega) (if_pos hi)
 ·rw[if_neg hi]at h
  have h:=of_decide_eq_true h
  exact .pos (Int.not_lt.mp hi) (by omega) (by omega) (if_neg hi)
theorem xh.cL{i:Int}{n:Nat}(h:xh i n):-(2^63:Int)<=i/\i<2^63:=by
 cases h with
 |neg h V h2 e=>exact⟨h2,Int.lt_trans h (by decide)⟩
 |pos h V h2 e=>exact⟨Int.le_trans (by decide) h,h2⟩
section
variable{C:Cx}{A:Around}{S:ST}{s:Shared}{W:Wh}{z:ES}{α β γ:Type}
inductive RE(s:Shared)(v:Value):Prop
 |mk (T id:String) (h:s.TypeIs v T) (h':typeLookup (.type T) "__getitem__"=pure (some (.builtin id)))
noncomputable def se(C:Cx)(A:Around)(v w:Value)(s:Shared)(Q:Value->Shared->Prop):Prop:=RE s v/\wpAny (model C.prog C.w) A (PySem.getItem v w) Q aP s
theorem pj.getItem{v:Value}{vs:List Value}{i:Int}{t:Tok}{x:Value}(h:pj s.heap v vs)(hf:vs.length<=1000000)(hp:cy i vs.length=true)(hx:vs[place i vs.length]?=some x){Q:Value->Shared->Prop}(q:Q x s):se C A v (.int i t) s Q:=by
 have P:=xi hp hf
 cases h with
 |list hl=>
  refine⟨⟨"list",_,hl.typeIs,slot_list_getitem.lookup⟩, ?_⟩
  cases P with
  |neg h V h2 e=>exact wpAny_getItem_list_neg hl h V h2 (by rw[e]at hx;exact(List.getElem?_toArray).trans hx) q
  |pos h V h2 e=>exact wpAny_getItem_list hl h h2 (by rw[e]at hx;exact(List.getElem?_toArray).trans hx) q
 |tup ht=>exact⟨⟨"tuple",_,ht.typeIs,slot_tuple_getitem.lookup⟩,PyProof.Rows.getItem_tuple ht P.cL.1 P.cL.2 (yH hp).1 ((List.getElem?_toArray).trans hx) q⟩
theorem Pd{a:U}{v:Value}{k:Str}{P:DT (U×ES)->Prop}(hf:P .fail)(D:mK C S)(X:SW C W z s)(r:VR W.F W.ρ a v)(h:∀d aY b x,v= .ref d->s.heap.DictOf (strKind C.prog C.w) d aY->valueAt aY k=some x->VR W.F W.ρ b x->P (ak b z)):P (CE S a k z):=by
 induction r using VR.casesOn with
 |@top d=>
  refine bI hf λes hd=>bI hf λb hk=> ?_
  obtain⟨aY,V,h2⟩:=D.at_ d es hd W.F W.ρ X.base
  obtain⟨x,h3,h4⟩:=h2.value hk
  exact h d aY b x rfl (V.keep X.rel.keep) h3 h4
 |@obj l d hx=>
  refine r9 hf λes ho=>bI hf λb hk=> ?_
  obtain⟨ds,n,h3,h4,h5⟩:=q6 X ho hx
  obtain⟨aY,k1,k2⟩:=q8 (prog:=C.prog) h3 h4 h5
  obtain⟨x,Y,Z⟩:=k2.value hk
  exact h d aY b x rfl k1 Y Z
 |_=>exact hf
theorem yL(D:mK C S){a b:U}{v w:Value}(X:SW C W z s)(Z:VR W.F W.ρ a v)(J:VR W.F W.ρ b w):Tp C (se C A v w s) s W VR (cG S a b z):=by
 refine ph (Φ:=λw T=>Tp C (se C A v w s) s W VR T) J (λ_=>Tp.fail) (λi t=>m_ (Φ:=λv T=>Tp C (se C A v _ s) s W VR T) Z (λx u=>Tp.test (λhf Q Y=> ?_) λ_=>Tp.fail)
  (uT Tp.fail X Z λxs ⟨vs,hs,hr⟩=>bI Tp.fail λr hx=>Tp.test (λhf Q Y=> ?_) λ_=>Tp.fail)) λk t=>Pd Tp.fail D X Z λd aY b x e V h2 h3 Q Y=>
   e▸⟨⟨_,_,V.typeIs,slot_dict_getitem.lookup⟩,wpAny_getItem_of (strKind_is _ _ k t) V.mapOf h2 (Po.here Y (X.tok _) h3 rfl rfl)⟩
 ·rw[Bool.and_eq_true]at hf
  obtain⟨V,h2⟩:=(xi hf.2 (eQ hf.1)).cL
  obtain⟨e1,e2⟩:=yH hf.2
  refine⟨⟨"str",_,typeIs_str s x u,F.slot_str_getitem.lookup⟩,SB.getItem ?_ ?_ (Po.here Y (X.tok _) .str rfl rfl)⟩
  ·unfold fitsSsize
   rw[decide_eq_false (Int.not_lt.mpr V),decide_eq_false (Int.not_le.mpr h2)];rfl
  ·unfold Txt.charAt
   rw[e1,Option.bind_some,Array.getElem?_eq_getElem (show place i x.length<x.cps.size from e2)];rfl
 ·rw[Bool.and_eq_true]at hf
  obtain⟨x,V,h2⟩:=hr.get hx
  have hl:=hr.length
  exact hs.getItem (hl▸eQ hf.1) (hl▸hf.2) (hl▸V) (Po.here Y X h2 rfl rfl)
theorem E_(D:mK C S){value slice:PySem.Expr}{a b:U}{v w:Value}(X:SW C W z s)(Y:VR W.F W.ρ a v)(Z:VR W.F W.ρ b w):Tr C A (subscriptTail value slice v w) s W VR (cG S a b z):=by
 intro Q J
 obtain⟨⟨T,id,V,h2⟩,h3⟩:=yL (A:=A) D X Y Z Q J
 exact ut V h2 h3
theorem E'(D:mK C S){a b:U}{v w:Value}(V:SW C W z s)(X:VR W.F W.ρ a v)(Y:VR W.F W.ρ b w):Tr C A (PySem.getItem v w) s W VR (cG S a b z):=
 λQ Z=>(yL (A:=A) D V X Y Q Z).2
theorem yk{a b c:U}{v w x:Value}(X:SW C W z s)(Z:VR W.F W.ρ a v)(J:VR W.F W.ρ b w)(rc:VR W.F W.ρ c x):Tr C A (setItem v w x) s W RU (oB a b c z):=by
 refine ny (Φ:=λv T=>Tr C A (setItem v w x) s W RU T) Z (λ_=>Tr.fail) λl y hx=>ph (Φ:=λw T=>Tr C A (setItem _ w x) s W RU T) J (λ_=>Tr.fail) (λi t=>iD Tr.fail λxs ho=>Tr.test (λhf Q Y=> ?_) λ_=>Tr.fail)
  λk t=>r9 Tr.fail λes ho=>Tr.test (λhf Q Y=> ?_) λ_=>Tr.fail
 ·rw[Bool.and_eq_true]at hf
  obtain⟨vs,n,V,h2,h3⟩:=gM X ho hx
  have hl:vs.toArray.size=xs.length:=h3.length
  have fin:Po C W s RU Q () {s with heap:=s.heap.update y (Obj.mapSeq (·.setIfInBounds (place i xs.length) x))}:=by
   have g:=PySem.IsL.update (x:=V) (·.setIfInBounds (place i xs.length) x)
   rw[List.setIfInBounds_toArray]at g
   exact Po.here (z:=⟨z.fs,z.os.set l (.list (xs.set (place i xs.length) c))⟩) Y ⟨X.base,X.rel.update ho rfl hx (Heap.SameBut.update _ _ _) g ⟨_,_,rfl,h3.set rc _⟩⟩ trivial rfl rfl
  cases xi hf.2 (eQ hf.1)with
  |neg h e1 e2 e=>exact ki_setBack V h (hl▸e1) e2 (hl▸e▸fin)
  |pos h e1 e2 e=>exact ki_setAt V h e2 (hl▸e1) (e▸fin)
 ·obtain⟨ds,n,h3,h4,h5⟩:=q6 X ho hx
  obtain⟨aY,k1,k2⟩:=q8 (prog:=C.prog) h3 h4 h5
  refine wpAny_setItem_pairs (strKind_is _ _ k t) k1 (λh' hd hs=> ?_) (by rw[k2.length];exact Nat.le_trans (eQ hf) (Nat.le_trans (m:=2000000) (by decide) mB))
  obtain⟨lm,n',g1,g2,g3⟩:=zW hd (k2.stored rc h5)
  exact Po.here (z:=⟨z.fs,z.os.set l (.dict (cV k c es))⟩) Y ⟨X.base,X.rel.update ho rfl hx hs g1 ⟨lm,n',rfl,g2,g3⟩⟩ trivial rfl rfl
end
theorem mC{m n:Nat}(h:fits n=true)(e:m=n):m<=sizeLine:=e▸Nat.le_trans (eQ h) (Nat.le_trans (m:=2000000) (by decide) mB)
theorem KF{n:Nat}(h:fits n=true):Builtin.Str.tooLong n=false:=decide_eq_false (Nat.not_lt.mpr (mC h rfl))
open Builtin Builtin.Str in
theorem EQ(x y:Str)(i j:Int)(t u v U:Tok):Gives («str.count» ⟨[.str x t, .str y u, .int i v, .int j U],[]⟩) (.int (pd x y (fromIndex x.length i) (min (fromIndex x.length j) x.length))):=by
 show Gives (retInt (occurrences x y (fromIndex x.length i) (min (fromIndex x.length j) x.length) (x.length+1)).length) _
 exact .of_eq rfl
open Builtin Builtin.Str in
theorem ER(x y:Str)(i j:Int)(t u v U:Tok):Gives («str.rfind» ⟨[.str x t, .str y u, .int i v, .int j U],[]⟩) (.int (gR x y (fromIndex x.length i) (min (fromIndex x.length j) x.length))):=by
 show Gives (match lastOccurrence x y (fromIndex x.length i) (min (fromIndex x.length j) x.length)with|some i=>retInt i|none=>(do rule "str.rfind.not-found";retInt (-1))) _
 unfold gR
 cases lastOccurrence x y (fromIndex x.length i) (min (fromIndex x.length j) x.length)with
 |none=>exact .rule (.of_eq rfl)
 |some i=>exact .of_eq rfl
section
variable{C:Cx}{A:Around}{S:ST}{s:Shared}{W:Wh}{z:ES}{α β γ:Type}{F:Heap}{ρ:List Addr}
theorem Gi{xs:List U}{vs:List Value}(hr:az F ρ xs vs):∀{ys:List Str},strsOf xs=some ys->∃l:List (Str×Tok),vs=strValues l/\l.map (·.1)=ys:=
 hr.ind (m:=λxs vs=>∀{ys:List Str},strsOf xs=some ys->∃l:List (Str×Tok),vs=strValues l/\l.map (·.1)=ys) (λh=>⟨[],rfl,Option.some.inj h⟩) λ{x v xs vs} V _ ih ys=>by
  induction V using VR.casesOn with
  |@str x t=>
   intro h
   obtain⟨zs,q,rfl⟩:=Option.map_eq_some_iff.mp (show(strsOf xs).map (x::·)=some ys from h)
   obtain⟨l,rfl,rfl⟩:=ih q
   exact⟨(x,t)::l,rfl,rfl⟩
  |_=>intro h;cases h
theorem Gj{xs:List U}{vs:List Value}(hr:az F ρ xs vs):∀{ys:List Int},intsOf xs=some ys->∃l:List (Int×Tok),vs=l.map (λp=>Value.int p.1 p.2)/\l.map (·.1)=ys:=
 hr.ind (m:=λxs vs=>∀{ys:List Int},intsOf xs=some ys->∃l:List (Int×Tok),vs=l.map (λp=>Value.int p.1 p.2)/\l.map (·.1)=ys) (λh=>⟨[],rfl,Option.some.inj h⟩) λ{x v xs vs} V _ ih ys=>by
  induction V using VR.casesOn with
  |@int x t=>
   intro h
   obtain⟨zs,q,rfl⟩:=Option.map_eq_some_iff.mp (show(intsOf xs).map (x::·)=some ys from h)
   obtain⟨l,rfl,rfl⟩:=ih q
   exact⟨(x,t)::l,rfl,rfl⟩
  |_=>intro h;cases h
theorem az.numbered:∀(tk:Nat) (xs:List Str),az F ρ (xs.map U.str) (strsFrom tk xs)
 |_,[]=> .nil
 |tk,x::r=> .cons .str (az.numbered (tk+1) r)
theorem SW.grown(U:SW C W z s){h':Heap}{k:Nat}(hk:∀b o,s.heap.get? b=some o->h'.get? b=some o):SW C W z {s with heap:=h',toks:=k}:=⟨U.base,U.rel.keeps hk⟩
theorem FH{a:U}{v:Value}(V:SW C W z s)(Y:VR W.F W.ρ a v):Tr C A (PySem.call (.builtin "len") [v]) s W VR (CA a z):=by
 refine m_ (Φ:=λv T=>Tr C A (PySem.call (.builtin "len") [v]) s W VR T) Y (λx t=>Tr.test (λhf Q X=>P.len_str (Int.not_le.mpr (ur hf rfl)) (Po.here X (V.tok _) .int rfl rfl)) λ_=>Tr.fail)
  (uT Tr.fail V Y λxs ⟨vs,hs,hr⟩=>Tr.test (λhf Q X=> ?_) λ_=>Tr.fail)
 have hl:vs.toArray.size=xs.length:=hr.length
 have g:∀tk k:Nat,Po C W s VR Q (.int (vs.toArray.size:Nat) tk) {s with toks:=k}:=λtk k=>by
  rw[hl]
  exact Po.here X (V.tok k) .int rfl rfl
 have hb:=ur hf hl
 cases hs with
 |list h=>exact Calls.call_len_list h hb (g _ _)
 |tup h=>exact PyProof.Rows.len_tuple h hb (g _ _)
noncomputable abbrev Cl(C:Cx)(A:Around)(s:Shared)(W:Wh)(c:Value)(vs:List Value)(T:DT (U×ES)):Prop:=Tr C A (PySem.call c vs) s W VR T
section
variable{c:Value}{args:List U}{vs:List Value}
theorem nz{f:U->List U->EM U}{Φ:List Value->DT (U×ES)->Prop}(X:∀vs,Φ vs .fail)(hr:az W.F W.ρ args vs)(h:∀a v r us,VR W.F W.ρ a v->az W.F W.ρ r us->Φ (v::us) (f a r z)):Φ vs (hA args f z):=by
 cases hr with
 |nil=>exact X _
 |cons V h2=>exact h _ _ _ _ V h2
theorem pn{t f:EM U}{Φ:List Value->DT (U×ES)->Prop}(hr:az W.F W.ρ args vs)(h:Φ [] (t z))(h2:∀v us,az W.F W.ρ args (v::us)->Φ (v::us) (f z)):Φ vs (hE args t f z):=by
 cases hr with
 |nil=>exact h
 |cons h3 h4=>exact h2 _ _ (.cons h3 h4)
theorem RG{f:Str->List U->EM U}{Φ:List Value->DT (U×ES)->Prop}(X:∀vs,Φ vs .fail)(hr:az W.F W.ρ args vs)(h:∀x t r us,az W.F W.ρ r us->Φ (.str x t::us) (f x r z)):Φ vs (hS args f z):=
 nz X hr λa v r us V h2=>pi (Φ:=λv=>Φ (v::us)) V (λ_=>X _) λx t=>h x t r us h2
theorem wk{f:Int->List U->EM U}{Φ:List Value->DT (U×ES)->Prop}(X:∀vs,Φ vs .fail)(hr:az W.F W.ρ args vs)(h:∀x t r us,az W.F W.ρ r us->Φ (.int x t::us) (f x r z)):Φ vs (hI args f z):=
 nz X hr λa v r us V h2=>nx (Φ:=λv=>Φ (v::us)) V (λ_=>X _) λx t=>h x t r us h2
theorem RH{f:Nat->List U->EM U}{Φ:List Value->DT (U×ES)->Prop}(X:∀vs,Φ vs .fail)(hr:az W.F W.ρ args vs)(h:∀l a r us,W.ρ[l]?=some a->az W.F W.ρ r us->Φ (.ref a::us) (f l r z)):Φ vs (hO args f z):=
 nz X hr λa v r us V h2=>ny (Φ:=λv=>Φ (v::us)) V (λ_=>X _) λl a e=>h l a r us e h2
theorem nf{l:Nat}{a:Addr}{f:List U->EM β}{Φ:DT (β×ES)->Prop}(V:Φ .fail)(X:SW C W z s)(hx:W.ρ[l]?=some a)(h:∀xs vs n,z.os[l]?=some (.list xs)->s.heap.get? a=some (listOf vs.toArray n)->s.heap.IsList a vs.toArray->az W.F W.ρ xs vs->Φ (f xs z)):Φ (gL l f z):=
 iD V λxs ho=>by
  obtain⟨vs,n,k1,k2,Y⟩:=gM X ho hx
  exact h xs vs n ho k1 k2 Y
end
theorem set_list(V:SW C W z s){l:Nat}{a:Addr}{xs ys:List U}{ws:List Value}{n:Nat}{h':Heap}(ho:z.os[l]?=some (.list xs))(hx:W.ρ[l]?=some a)(hs:Heap.SameBut a s.heap h')(g:h'.get? a=some (listOf ws.toArray n))(r:az W.F W.ρ ys ws):
 SW C W ⟨z.fs,z.os.set l (.list ys)⟩ {s with heap:=h'}:=⟨V.base,V.rel.update ho rfl hx hs g ⟨_,_,rfl,r⟩⟩
variable{c:Value}{vs:List Value}
theorem Pe(R:A.handled=none)(U:SW C W z s){l:Nat}{a:Addr}(hx:W.ρ[l]?=some a):Cl C A s W (.builtin "sum") [.ref a] (gL l (λxs=>bl (intsOf xs) λis=>ak (.int is.sum)) z):=by
 refine nf (Φ:=Cl C A s W (.builtin "sum") [.ref a]) Tr.fail U hx λxs vs n ho k1 k2 V=>bI Tr.fail λis hi Q X=> ?_
 obtain⟨ls,rfl,rfl⟩:=Gj V hi
 refine PySem.sum_intListG (xs:=ls.toArray) R (by unfold intItems;rw[List.map_toArray];exact k2) λh' tk Y hk=> ?_
 rw[preSum_eq,List.size_toArray,List.take_of_length_le (by rw[List.length_map];exact Nat.le_refl _)]
 exact Po.here X (U.grown hk) .int rfl rfl
theorem Gk(U:SW C W z s)(x y w:Str)(t u v:Tok):Cl C A s W (.builtin "str.replace") [.str x t, .str y u, .str w v] (aE (Builtin.Str.occurrences x y 0 x.length (x.length+1)).isEmpty (ak (.str x)) ae z):=by
 refine Tr.test (λhf Q V=> ?_) λ_=>Tr.fail
 refine call_gives F.slot_str_replace (typeIs_str _ _ _) F.entry_str_replace (F.args_str_replace_3 _ _ _) (gives_str_replace x y w t u v λh=> ?_) ?_
 ·rw[hf]at h;cases h
 ·rw[hf,Bool.true_or,if_pos rfl]
  exact Po.here V U .str rfl rfl
theorem KG(Z:SW C W z s)(x y:Str)(t u:Tok):Cl C A s W (.builtin "str.split") [.str x t, .str y u] (aE (fits x.length&& !(y.length==0)) (fU (.list ((Txt.split x y).map .str))) ae z):=by
 refine Tr.test (λhf=> ?_) λ_=>Tr.fail
 rw[Bool.and_eq_true]at hf
 have hle:=eQ hf.1
 have J:x.length+1+1<=sizeLine:=Nat.le_trans (Nat.succ_le_succ (Nat.succ_le_succ hle)) (by decide)
 have hy:(y.length==0)=false:=by cases q:(y.length==0)with
  |true=>rw[q]at hf;cases hf.2
  |false=>rfl
 clear hf hle
 intro Q K
 have X:∀ys,Txt.split x y=ys->Q (.obj z.os.length,⟨z.fs,z.os++[.list (ys.map U.str)]⟩):=λys e=>e▸K
 unfold Txt.split at X
 cases V:(decide (x.length<y.length)||decide (Builtin.Str.strKind x<Builtin.Str.strKind y))
 ·cases Y:(Builtin.Str.occurrences x y 0 x.length (x.length+1)).isEmpty
  ·refine call_meets F.slot_str_split (typeIs_str _ _ _) F.entry_str_split (F.args_str_split_2 _ _) (meets_str_split_sep x y t u V hy Y (Nat.le_trans (Nat.le_add_right _ 2) J) ?_) ?_
   ·rw[length_partsBetween]
    exact Nat.le_trans (Nat.succ_le_succ (StrLaws.occ_length_le x y 0 x.length (x.length+1))) J
   ·exact Po.newList (s':={s with toks:=_,heap:=s.heap.push {cls:= .type "list",data:= .seq (strsFrom s.toks (Builtin.Str.partsBetween x (Builtin.Str.occurrences x y 0 x.length (x.length+1)) y.length)).toArray}})
     (n:=0) Z rfl rfl rfl (az.numbered _ _) (X _ (by rw[V,Y];rfl))
  ·exact call_meets F.slot_str_split (typeIs_str _ _ _) F.entry_str_split (F.args_str_split_2 _ _) (meets_str_split_not_found x y t u V hy Y)
    (Po.newList (s':={s with heap:=s.heap.push {cls:= .type "list",data:= .seq [Value.str x t].toArray}}) (n:=0) Z rfl rfl rfl (.cons .str .nil) (X [x] (by rw[V,Y];rfl)))
 ·exact call_meets F.slot_str_split (typeIs_str _ _ _) F.entry_str_split (F.args_str_split_2 _ _) (meets_str_split_cannot_occur x y t u V)
   (Po.newList (s':={s with heap:=s.heap.push {cls:= .type "list",data:= .seq [Value.str x t].toArray}}) (n:=0) Z rfl rfl rfl (.cons .str .nil) (X [x] (by rw[V];rfl)))
theorem MV(U:SW C W z s)(x:Str)(t:Tok){l:Nat}{a:Addr}(hx:W.ρ[l]?=some a):Cl C A s W (.builtin "str.join") [.str x t, .ref a] (gL l (λxs=>bl (strsOf xs) λys=>aE (JoinOk x ys) (ak (.str (Txt.join x ys))) ae) z):=
 nf (Φ:=Cl C A s W (.builtin "str.join") [.str x t, .ref a]) Tr.fail U hx λxs vs n ho k1 k2 V=>bI Tr.fail λys hi=>Tr.test (λhf Q X=>by
  obtain⟨ls,rfl,e⟩:=Gi V hi
  exact SC.join k2 e hf λY k=>Po.here X (U.tok _) .str rfl rfl) λ_=>Tr.fail
theorem HV(V:SW C W z s){l:Nat}{a:Addr}{b:U}{w:Value}(hx:W.ρ[l]?=some a)(h2:VR W.F W.ρ b w):Cl C A s W (.builtin "list.append") [.ref a,w] (gL l (λxs=>aE (fits xs.length) (bd (gZ l (.list (xs++[b]))) λ_=>ak .none) ae) z):=by
 refine nf (Φ:=Cl C A s W (.builtin "list.append") [.ref a,w]) Tr.fail V hx λxs vs n ho k1 k2 X=>Tr.test (λhf Q Y=> ?_) λ_=>Tr.fail
 refine wpAny_list_append_plain ⟨n,k1⟩ (λh' hp hs=> ?_) (mC hf X.length)
 obtain⟨n',g⟩:=hp
 rw[List.push_toArray]at g
 exact Po.here (z:=⟨z.fs,z.os.set l (.list (xs++[b]))⟩) Y (set_list V ho hx hs g (X.append (.one h2))) .none rfl rfl
theorem Pf(V:SW C W z s){l:Nat}{a:Addr}(hx:W.ρ[l]?=some a):Cl C A s W (.builtin "list.pop") [.ref a] (gL l (λxs=>bl xs.getLast? λy=>aE (fits xs.length) (bd (gZ l (.list xs.dropLast)) λ_=>ak y) ae) z):=by
 refine nf (Φ:=Cl C A s W (.builtin "list.pop") [.ref a]) Tr.fail V hx λxs vs n ho k1 k2 U=>bI Tr.fail λy X=>Tr.test (λhf Q Y=> ?_) λ_=>Tr.fail
 have hl:=U.length
 rw[List.getLast?_eq_getElem?]at X
 obtain⟨w,g1,g2⟩:=U.get X
 refine call_meets F.slot_list_pop ⟨_,k1,rfl⟩ F.entry_list_pop (F.args_list_pop_1 _) (PySem.MeetsSeq.list_pop_last a _ n w (by rw[List.size_toArray,hl];exact(List.getElem?_toArray).trans g1) (mC hf hl)) ⟨k1, ?_⟩
 have g:=PySem.IsL.update (x:=k1) (λxs=>xs.eraseIdxIfInBounds (vs.toArray.size-1))
 have e:vs.toArray.eraseIdxIfInBounds (vs.toArray.size-1)=(vs.take (vs.length-1)).toArray:=by
  rw[List.size_toArray,List.eraseIdxIfInBounds_toArray,List.eraseIdx_eq_dropLast ?_,List.dropLast_eq_take]
  rw[hl]
  exact Nat.sub_add_cancel (Nat.lt_of_le_of_lt (Nat.zero_le _) (hl▸(List.getElem?_eq_some_iff.mp g1).1))
 rw[e]at g
 refine Po.here (z:=⟨z.fs,z.os.set l (.list xs.dropLast)⟩) Y (set_list V ho hx (Heap.SameBut.update _ _ _) g ?_) g2 rfl rfl
 rw[List.dropLast_eq_take,hl]
 exact U.take _
theorem MW(V:SW C W z s){l:Nat}{a:Addr}(i:Int)(t:Tok)(hx:W.ρ[l]?=some a):Cl C A s W (.builtin "list.pop") [.ref a, .int i t] (gL l (λxs=>hA xs λy r=>aE (decide (i=0)&&fits r.length) (bd (gZ l (.list r)) λ_=>ak y) ae) z):=by
 refine nf (Φ:=Cl C A s W (.builtin "list.pop") [.ref a, .int i t]) Tr.fail V hx λxs vs n ho k1 k2 U=> ?_
 refine nz (Φ:=λvs T=>s.heap.get? a=some (listOf vs.toArray n)->Cl C A s W (.builtin "list.pop") [.ref a, .int i t] T) (λ_ _=>Tr.fail) U (λy w xs vs g2 U k1=>Tr.test (λhf Q X=> ?_) λ_=>Tr.fail) k1
 rw[Bool.and_eq_true]at hf
 have hi:=of_decide_eq_true hf.1
 subst hi
 refine call_meets F.slot_list_pop ⟨_,k1,rfl⟩ F.entry_list_pop (F.args_list_pop_2 _ _) (PySem.MeetsSeq.list_pop_at a _ n 0 t 0 w (by decide) (by unfold seqIndex?;simp) rfl (Nat.le_trans (Nat.succ_le_succ (U.length▸eQ hf.2)) (Nat.le_trans (m:=2000000) (by decide) mB))) ⟨k1, ?_⟩
 have g:=PySem.IsL.update (x:=k1) (λxs=>xs.eraseIdxIfInBounds 0)
 rw[List.eraseIdxIfInBounds_toArray]at g
 exact Po.here (z:=⟨z.fs,z.os.set l (.list xs)⟩) X (set_list V ho hx (Heap.SameBut.update _ _ _) g U) g2 rfl rfl
theorem Fa(R:A.handled=none)(id:BI)(args:List U)(vals:List Value)(X:SW C W z s)(hr:az W.F W.ρ args vals):Tr C A (PySem.call (.builtin id.id) vals) s W VR (vK id args z):=by
 have n:∀c vs,Cl C A s W c vs .fail:=λ_ _=>Tr.fail
 have one:∀{c:Value} {k:List Value->List Value} {T:EM U} {r:List U} {us:List Value},az W.F W.ρ r us->Cl C A s W c (k []) (T z)->Cl C A s W c (k us) (hE r T ae z):=λ{c k T r us} hr h=>
  pn (Φ:=λv=>Cl C A s W c (k v)) hr h λ_ _ _=>n _ _
 have str:∀{c:Value} {k:List Value->List Value} {f:Str->List U->EM U} {r:List U} {us:List Value},az W.F W.ρ r us->(∀x t r us,az W.F W.ρ r us->Cl C A s W c (k (.str x t::us)) (f x r z))->Cl C A s W c (k us) (hS r f z):=λ{c k f r us} hr h=>
  RG (Φ:=λv=>Cl C A s W c (k v)) (λ_=>n _ _) hr h
 have int:∀{c:Value} {k:List Value->List Value} {f:Int->List U->EM U} {r:List U} {us:List Value},az W.F W.ρ r us->(∀x t r us,az W.F W.ρ r us->Cl C A s W c (k (.int x t::us)) (f x r z))->Cl C A s W c (k us) (hI r f z):=λ{c k f r us} hr h=>
  wk (Φ:=λv=>Cl C A s W c (k v)) (λ_=>n _ _) hr h
 have obj:∀{c:Value} {k:List Value->List Value} {f:Nat->List U->EM U} {r:List U} {us:List Value},az W.F W.ρ r us->(∀l a r us,W.ρ[l]?=some a->az W.F W.ρ r us->Cl C A s W c (k (.ref a::us)) (f l r z))->Cl C A s W c (k us) (hO r f z):=λ{c k f r us} hr h=>
  RH (Φ:=λv=>Cl C A s W c (k v)) (λ_=>n _ _) hr h
 cases id with
 |len=>exact nz (Φ:=Cl C A s W _) (n _) hr λa v r us V hr=>one (k:=λu=>v::u) hr (FH X V)
 |ord=>
  refine str (k:=λu=>u) hr λx t r us hr=>one (k:=λu=> .str x t::u) hr ?_
  obtain⟨⟨l⟩⟩:=x
  rcases l with _|⟨c,_|⟨d,l⟩⟩
  ·exact Tr.fail
  ·exactλQ Y=>P.ord_of_char (Po.here Y (X.tok _) .int rfl rfl)
  ·exact Tr.fail
 |chr=>
  refine int (k:=λu=>u) hr λi t r us hr=>one (k:=λu=> .int i t::u) hr (Tr.test (λhf=> ?_) λ_=>Tr.fail)
  rw[Bool.and_eq_true]at hf
  exactλQ Y=>P.chr_of_int (by rw[Bool.or_eq_false_iff];exact⟨decide_eq_false (Int.not_lt.mpr (of_decide_eq_true hf.1)),decide_eq_false (Int.not_lt.mpr (of_decide_eq_true hf.2))⟩) (Po.here Y (X.tok _) .str rfl rfl)
 |sum=>exact obj (k:=λu=>u) hr λl a r us hx hr=>one (k:=λu=> .ref a::u) hr (Pe R X hx)
 |lower=>
  refine str (k:=λu=>u) hr λx t r us hr=>one (k:=λu=> .str x t::u) hr (Tr.test (λhf=> ?_) λ_=>Tr.fail)
  exactλQ Y=>SC.lower (KF hf) (Po.here Y (X.tok _) .str rfl rfl)
 |find=>
  exact str (k:=λu=>u) hr λx t r us hr=>str (k:=λu=> .str x t::u) hr λy Z r us hr=>pn (Φ:=λv=>Cl C A s W _ (.str x t:: .str y Z::v)) hr (λQ Y=>SC.find (Po.here Y (X.tok _) .int rfl rfl))
   λv us hr=>int (k:=λu=> .str x t:: .str y Z::u) hr λi t2 r us hr=>one (k:=λu=> .str x t:: .str y Z:: .int i t2::u) hr λQ Y=>SC.find3 (Po.here Y (X.tok _) .int rfl rfl)
 |count=>
  exact str (k:=λu=>u) hr λx t r us hr=>str (k:=λu=> .str x t::u) hr λy t1 r us hr=>int (k:=λu=> .str x t:: .str y t1::u) hr λi t2 r us hr=>int (k:=λu=> .str x t:: .str y t1:: .int i t2::u) hr λj t3 r us hr=>
   one (k:=λu=> .str x t:: .str y t1:: .int i t2:: .int j t3::u) hr λQ Y=>call_gives F.slot_str_count (typeIs_str _ _ _) F.entry_str_count (F.args_str_count_4 _ _ _ _) (EQ _ _ _ _ _ _ _ _) (Po.here Y (X.tok _) .int rfl rfl)
 |rfind=>
  exact str (k:=λu=>u) hr λx t r us hr=>str (k:=λu=> .str x t::u) hr λy t1 r us hr=>int (k:=λu=> .str x t:: .str y t1::u) hr λi t2 r us hr=>int (k:=λu=> .str x t:: .str y t1:: .int i t2::u) hr λj t3 r us hr=>
   one (k:=λu=> .str x t:: .str y t1:: .int i t2:: .int j t3::u) hr λQ Y=>call_gives F.slot_str_rfind (typeIs_str _ _ _) F.entry_str_rfind (F.args_str_rfind_4 _ _ _ _) (ER _ _ _ _ _ _ _ _) (Po.here Y (X.tok _) .int rfl rfl)
 |replace=>
  exact str (k:=λu=>u) hr λx t r us hr=>str (k:=λu=> .str x t::u) hr λy t1 r us hr=>str (k:=λu=> .str x t:: .str y t1::u) hr λw t2 r us hr=>one (k:=λu=> .str x t:: .str y t1:: .str w t2::u) hr (Gk X _ _ _ _ _ _)
 |split=>exact str (k:=λu=>u) hr λx t r us hr=>str (k:=λu=> .str x t::u) hr λy t1 r us hr=>one (k:=λu=> .str x t:: .str y t1::u) hr (KG X _ _ _ _)
 |join=>exact str (k:=λu=>u) hr λx t r us hr=>obj (k:=λu=> .str x t::u) hr λl a r us hx hr=>one (k:=λu=> .str x t:: .ref a::u) hr (MV X _ _ hx)
 |startswith=>exact str (k:=λu=>u) hr λx t r us hr=>str (k:=λu=> .str x t::u) hr λy t1 r us hr=>one (k:=λu=> .str x t:: .str y t1::u) hr λQ Y=>SC.startswith (Po.here Y X .bool rfl rfl)
 |append=>exact obj (k:=λu=>u) hr λl a r us hx hr=>nz (Φ:=λv=>Cl C A s W _ (.ref a::v)) (λ_=>n _ _) hr λb w r us V hr=>one (k:=λu=> .ref a::w::u) hr (HV X hx V)
 |pop=>
  exact obj (k:=λu=>u) hr λl a r us hx hr=>pn (Φ:=λv=>Cl C A s W _ (.ref a::v)) hr (Pf X hx) λv us hr=>int (k:=λu=> .ref a::u) hr λi t r us hr=>one (k:=λu=> .ref a:: .int i t::u) hr (MW X i t hx)
theorem Fb(id:BT)(args:List U)(vals:List Value)(Z:SW C W z s)(hr:az W.F W.ρ args vals):Tr C A (PySem.call (.type id.id) vals) s W VR (vL id args z):=by
 cases id with
 |range=>
  refine wk (Φ:=Cl C A s W _) (λ_=>Tr.fail) hr λm t r us hr=>pn (Φ:=λv=>Cl C A s W _ (.int m t::v)) hr (λQ V=> ?_) λv us hr=>wk (Φ:=λv=>Cl C A s W _ (.int m t::v)) (λ_=>Tr.fail) hr λn u r us hr=>
   pn (Φ:=λv=>Cl C A s W _ (.int m t:: .int n u::v)) hr (λQ V=> ?_) λ_ _ _=>Tr.fail
  ·refine call_range_1 ?_
   obtain⟨F',X,hn,Y⟩:=SW.fix (s':={s with heap:=s.heap.push {cls:= .type "range",data:= .fields #[.int 0 s.toks, .int m t, .int 1 (s.toks+1)]},toks:=s.toks+1+1}) Z (c:={cls:= .type "range",data:= .fields #[.int 0 s.toks, .int m t, .int 1 (s.toks+1)]}) rfl rfl
   exact⟨_,z,F',W.ρ,V,X,Y, .cL hn,rfl,rfl⟩
  ·refine call_range_2 ?_
   obtain⟨F',X,hn,Y⟩:=SW.fix (s':={s with heap:=s.heap.push {cls:= .type "range",data:= .fields #[.int m t, .int n u, .int 1 s.toks]},toks:=s.toks+1}) Z (c:={cls:= .type "range",data:= .fields #[.int m t, .int n u, .int 1 s.toks]}) rfl rfl
   exact⟨_,z,F',W.ρ,V,X,Y, .cL hn,rfl,rfl⟩
 |_=>exact Tr.fail
end
section
variable{P:Params}{F F':Heap}{ρ af φ n7:List Addr}{aq:List (Addr×Obj)}{os os':List AO}{fs dL:List AO}{h h':Heap}
theorem Rel.keepsBut{p:Addr×Obj}(R:Rel P F ρ φ (p::aq) os fs h)(k:Heap.ExtBut p.1 h h'):Rel P F ρ φ aq os fs h':=by
 have hp:=R.hF p (.head _)
 have W:=R.hC p (.head _)
 have hn:=(List.nodup_cons.mp R.hN)
 refine⟨λb o e=>k b o (λq=> ?_) (R.keep b o e),R.len,R.eX,λl o a e1 e2 hl=> ?_,R.new,R.inj,λq U=>k _ _ (λe=> ?_) (R.bz q (.tail _ U)),λq U=>R.hF q (.tail _ U),λq U=>R.hC q (.tail _ U),hn.2⟩
 ·subst q;rw[hp]at e;cases e
 ·obtain⟨c,V,h2⟩:=R.at_ l o a e1 e2 hl
  exact⟨c,k _ _ (λq=>W l o e1 hl (q▸e2)) V,h2⟩
 ·exact hn.1 (List.mem_map.mpr ⟨q,U,e⟩)
theorem zX{α:Type}{xs:List α}{x y:α}{l n:Nat}(e:xs.length=n)(h:(xs++[x])[l]?=some y):(l≠n/\xs[l]?=some y)\/(l=n/\y=x):=
 (AF rfl h h).imp (λh=>⟨λq=>Nat.lt_irrefl _ (q▸e▸(List.getElem?_eq_some_iff.mp h.1).1),h.1⟩) λh=>⟨h.1.trans e,h.2.1⟩
noncomputable def pU(n:Nat):Ix->Ix
 | .o l=>if l=n then .f 0 else .o l
 | .f k=> .f (k+1)
theorem rV{n l:Nat}:(l=n/\pU n (.o l)= .f 0)\/(l≠n/\pU n (.o l)= .o l):=(Decidable.em (l=n)).imp (λh=>⟨h,if_pos h⟩) λh=>⟨h,if_neg h⟩
theorem KH{n:Nat}:∀i j,pU n i=pU n j->i=j
 | .f _, .f _,e=>congrArg Ix.f (Nat.succ.inj (Ix.f.inj e))
 | .f m, .o l,e=>by rcases rV (n:=n) (l:=l)with⟨_,h⟩|⟨_,h⟩<;>cases e.trans h
 | .o l, .f m,e=>by rcases rV (n:=n) (l:=l)with⟨_,h⟩|⟨_,h⟩<;>cases e.symm.trans h
 | .o l, .o m,e=>by
   rcases rV (n:=n) (l:=l)with⟨h,e1⟩|⟨h,e1⟩<;>rcases rV (n:=n) (l:=m)with⟨h',e2⟩|⟨h',e2⟩<;>have e:=e1.symm.trans (e.trans e2)
   ·rw[h,h']
   ·cases e
   ·cases e
   ·exact e
theorem Rel.KI{b:Addr}{o:AO}(R:Rel P F ρ (b::φ) aq os (o::fs) h):Rel P F (ρ++[b]) φ aq (os++[o]) fs h:=by
 refine R.Cw (Ext.push F ρ b) (by rw[List.length_append,List.length_append,R.len];rfl) (Nat.succ.inj R.eX) (pU os.length) KH (λj o' e=> ?_) λj a e=> ?_
 ·cases j with
  |f n=>exact e
  |o l=>rcases zX rfl e with⟨h,e⟩|⟨h,e⟩
        ·exact(congrArg (cell os (o::fs)) (if_neg h)).trans e
        ·exact(congrArg (cell os (o::fs)) (if_pos h)).trans (congrArg some e.symm)
 ·cases j with
  |f n=>exact e
  |o l=>rcases zX R.len e with⟨h,e⟩|⟨h,e⟩
        ·exact(congrArg (adr ρ (b::φ)) (if_neg h)).trans e
        ·exact(congrArg (adr ρ (b::φ)) (if_pos h)).trans (congrArg some e.symm)
theorem Rel.label{b:Addr}{o:AO}{c:Obj}(R:Rel P F ρ φ ((b,c)::aq) os fs h)(ho:OR P F ρ o c):Rel P F (ρ++[b]) φ aq (os++[o]) fs h:=(R.vj ho).KI
end
inductive dH(F:Heap)(ρ:List Addr):Src->Nat->Obj->Prop
 |ascii {x:Str} {t:Tok} {i:Nat} {c:Obj}:c.cls= .type "str_ascii_iterator"->c.data= .fields #[.str x t, .int i 0]->dH F ρ (.fixed (chars x)) i c
 |wide {x:Str} {t:Tok} {i:Nat} {c:Obj}:c.cls= .type "str_iterator"->c.data= .fields #[.str x t, .int i 0]->dH F ρ (.fixed (chars x)) i c
 |tup {xs:List U} {vs:List Value} {a:Addr} {i:Nat} {c:Obj}:IsTup F a vs.toArray->az F ρ xs vs->c.cls= .type "tuple_iterator"->c.data= .fields #[.ref a, .int i 0]->dH F ρ (.fixed xs) i c
 |list {xs:List U} {vs:List Value} {a:Addr} {i:Nat} {c:Obj}:F.IsList a vs.toArray->az F ρ xs vs->c.cls= .type "list_iterator"->c.data= .fields #[.ref a, .int i 0]->dH F ρ (.fixed xs) i c
 |live {l:Nat} {a:Addr} {i:Nat} {c:Obj}:ρ[l]?=some a->c.cls= .type "list_iterator"->c.data= .fields #[.ref a, .int i 0]->dH F ρ (.live l) i c
 |cL {a b:Int} {i:Nat}:i<=(b-a).toNat->dH F ρ (.fixed (iq a b)) i {cls:= .type "range_iterator",data:= .fields #[rawInt (a+(i:Nat)),rawInt (((b-a).toNat:Int)-(i:Nat)),rawInt 1]}
theorem dH.mono{F F':Heap}{ρ af:List Addr}{src:Src}{i:Nat}{c:Obj}(X:Ext F ρ F' af)(h:dH F ρ src i c):dH F' af src i c:=by
 cases h with
 |ascii a b=>exact .ascii a b
 |wide a b=>exact .wide a b
 |tup a b c d=>exact .tup (a.keeps X.keep) (b.mono X) c d
 |list a b c d=>exact .list (let⟨o,V,h2⟩:=a;⟨o,X.keep _ _ V,h2⟩) (b.mono X) c d
 |live a b c=>exact .live (X.get a) b c
 |cL a=>exact .cL a
noncomputable def Wh.dh(W:Wh)(p:Addr×Obj):Wh:=⟨W.F,W.ρ,W.φ,p::W.aq⟩
section
variable{C:Cx}{A:Around}{S:ST}{s:Shared}{W:Wh}{z:ES}{α β γ:Type}
theorem SW.dh(U:SW C W z s){c:Obj}(V:c.isFreed=false){s':Shared}(hs:s'.heap=s.heap.push c):SW C (W.dh (s.heap.objs.size,c)) z s':=
 ⟨U.base,by rw[hs];exact U.rel.ML V⟩
noncomputable def o0(os:List AO):Src->Nat->Option (Option U)
 | .fixed xs,i=>some xs[i]?
 | .live l,i=>match os[l]?with
   |some (.list xs)=>some xs[i]?
   |_=>none
theorem FJ{os:List AO}{l i:Nat}{xs:List U}(e:os[l]?=some (.list xs)):o0 os (.live l) i=some xs[i]?:=by
 show(match os[l]?with|some (.list xs)=>some xs[i]?|_=>none)=_
 rw[e]
theorem yM{src:Src}{i:Nat}{k:Option U->EM β}{Q:β×ES->Prop}(h:(itemAt src i k z).Holds Q):∃o,o0 z.os src i=some o/\(k o z).Holds Q:=by
 cases src with
 |fixed xs=>exact⟨_,rfl,h⟩
 |live l=>exact iD (P:=λT=>T.Holds Q->∃o,o0 z.os (.live l) i=some o/\(k o z).Holds Q) (λh=>h.elim) (λxs e h=>⟨xs[i]?,FJ e,h⟩) h
section
variable{F:Heap}{ρ:List Addr}{i:Nat}{P:Option U->Prop}{G:Prop}
theorem zY{x:Str}(h:P (chars x)[i]?)(hn:x.cps[i]?=none->P none->G)(hs:∀d,x.cps[i]?=some d->P (some (.str ⟨#[d]⟩))->G):G:=by
 unfold chars at h
 rw[List.getElem?_map,Array.getElem?_toList]at h
 cases U:x.cps[i]?with
 |none=>rw[U]at h;exact hn U h
 |some d=>rw[U]at h;exact hs d U h
theorem HW{a b:Int}(h:P (iq a b)[i]?)(hn:¬i<(b-a).toNat->P none->G)(hs:i<(b-a).toNat->P (some (.int (a+(i:Nat))))->G):G:=by
 unfold iq at h
 rw[List.getElem?_map]at h
 by_cases hi:i<(b-a).toNat
 ·rw[List.getElem?_range hi]at h;exact hs hi h
 ·rw[List.getElem?_eq_none (by rw[List.length_range];exact Nat.not_lt.mp hi)]at h;exact hn hi h
theorem uv{xs:List U}{vs:List Value}(r:az F ρ xs vs)(h:P xs[i]?)(hn:vs.toArray[i]?=none->P none->G)(hs:∀v x,vs.toArray[i]?=some v->VR F ρ x v->P (some x)->G):G:=by
 rw[List.getElem?_toArray]at hn
 cases hx:xs[i]?with
 |none=>
  rw[hx]at h
  exact hn (List.getElem?_eq_none (r.length▸List.getElem?_eq_none_iff.mp hx)) h
 |some x=>
  rw[hx]at h
  obtain⟨v,g1,g2⟩:=r.get hx
  exact hs v x (List.getElem?_toArray.trans g1) g2 h
end
noncomputable def Nx(C:Cx)(W:Wh)(z:ES)(I:Addr)(src:Src)(i:Nat)(s:Shared)(Q:Option Value->Shared->Prop):Option U->Prop
 |some x=>∀v s' V,VR W.F W.ρ x v->SW C (W.dh (I,V)) z s'->dH W.F W.ρ src (i+1) V->C.gk s'.gens=C.gk s.gens->s'.os=s.os->Q (some v) s'
 |none=>∀s',SW C W z s'->C.gk s'.gens=C.gk s.gens->s'.os=s.os->Q none s'
theorem yN(R:A.handled=none){I:Addr}{src:Src}{i:Nat}{c:Obj}(Z:SW C (W.dh (I,c)) z s)(it:dH W.F W.ρ src i c){Q:Option Value->Shared->Prop}
 {o:Option U}(V:o0 z.os src i=some o)(h2:Nx C W z I src i s Q o):wpAny (model C.prog C.w) A (pyNext (.ref I)) Q aP s:=by
 have hI:=Z.rel.bz (I,c) (.head _)
 have fin:Nx C W z I src i s Q none->∀h',Heap.ExtBut I s.heap h'->Q none {s with heap:=h'}:=λh2 h' k=>h2 _ ⟨Z.base,Rel.keepsBut (p:=(I,c)) Z.rel k⟩ rfl rfl
 have step:∀{x v},Nx C W z I src i s Q (some x)->VR W.F W.ρ x v->∀h' tk Y,h'.get? I=some Y->Heap.SameBut I s.heap h'->dH W.F W.ρ src (i+1) Y->Q (some v) {s with heap:=h',toks:=tk}:=λh2 r h' tk Y e k it=>h2 _ _ Y r ⟨Z.base,Z.rel.Cz k e⟩ it rfl rfl
 cases it with
 |ascii e1 e2=>
  cases V
  exact zY h2 (λX h2=>wpAny_pyNext_ascii_end R ⟨c,hI,e1,e2⟩ X (fin h2)) λd X h2=>wpAny_pyNext_ascii_item ⟨c,hI,e1,e2⟩ X λh' ⟨Y,g1,g2,g3⟩ k=>step h2 .str h' _ Y g1 k (.ascii g2 g3)
 |wide e1 e2=>
  cases V
  exact zY h2 (λX h2=>wpAny_pyNext_wide_end R ⟨c,hI,e1,e2⟩ X (fin h2)) λd X h2=>wpAny_pyNext_wide_item ⟨c,hI,e1,e2⟩ X λh' ⟨Y,g1,g2,g3⟩ k=>step h2 .str h' _ Y g1 k (.wide g2 g3)
 |tup t r e1 e2=>
  cases V
  have ht:=t.keeps Z.rel.keep
  exact uv r h2 (λX h2=>wpAny_pyNext_tuple_end R ⟨c,hI,e1,e2⟩ ht X (fin h2)) λv x X J h2=>wpAny_pyNext_tuple_item ⟨c,hI,e1,e2⟩ ht X λh' ⟨Y,g1,g2,g3⟩ k=>step h2 J h' _ Y g1 k (.tup t r g2 g3)
 |list t r e1 e2=>
  cases V
  obtain⟨o,L,q2⟩:=id t
  have ht:s.heap.IsList _ _:=⟨o,Z.rel.keep _ _ L,q2⟩
  exact uv r h2 (λX h2=>wpAny_pyNext_list_end R ⟨c,hI,e1,e2⟩ ht X (fin h2)) λv x X J h2=>wpAny_pyNext_list_item ⟨c,hI,e1,e2⟩ ht X λh' ⟨Y,g1,g2,g3⟩ k=>step h2 J h' _ Y g1 k (.list t r g2 g3)
 |@live l a _ _ ha e1 e2=>
  dsimp only[o0]at V
  cases hl:z.os[l]?with
  |none=>rw[hl]at V;cases V
  |some N=>
   rw[hl]at V
   cases N with
   |list xs=>
    cases V
    obtain⟨vs,n,k1,ht,r⟩:=gM (W:=W.dh (I,c)) Z hl ha
    exact uv r h2 (λX h2=>wpAny_pyNext_list_end R ⟨c,hI,e1,e2⟩ ht X (fin h2)) λv x X J h2=>wpAny_pyNext_list_item ⟨c,hI,e1,e2⟩ ht X λh' ⟨Y,g1,g2,g3⟩ k=>step h2 J h' _ Y g1 k (.live ha g2 g3)
   |_=>cases V
 |@cL a b _ hle=>
  cases V
  refine HW h2 (λK h2=>wpAny_pyNext_range_end (x:=a+(i:Nat)) (left:=((b-a).toNat:Int)-(i:Nat)) (step:=1) R hI (by lia) (fin h2)) λK h2=> ?_
  refine wpAny_pyNext_range_item (x:=a+(i:Nat)) (left:=((b-a).toNat:Int)-(i:Nat)) (step:=1) hI (by lia) λh' hi k=> ?_
  rw[Int.add_assoc,Int.sub_sub]at hi
  exact step h2 .int h' _ _ hi k (.cL K)
theorem yO{a:U}{v:Value}(Y:SW C W z s)(r:VR W.F W.ρ a v){k:Src->EM β}{Φ:(γ->Shared->Prop)->Prop}{Z:Heap->List Addr->β->γ->Prop}{Ψ:Value->(γ->Shared->Prop)->Shared->Prop}
 (rule:∀Q,wpAny (model C.prog C.w) A (pyIter v) (λit J=>Ψ it Q J) aP s->Φ Q)
 (h:∀src c,c.isFreed=false->dH W.F W.ρ src 0 c->Tp C (λQ=>Ψ (.ref s.heap.objs.size) Q {s with heap:=s.heap.push c}) s W Z (k src z)):Tp C Φ s W Z (srcOf a k z):=by
 induction r using VR.casesOn with
 |@str x t=>
  refineλQ X=>rule _ ?_
  cases ha:x.cps.all (·<128)with
  |true=>exact wpAny_pyIter_ascii ha (h _ {cls:= .type "str_ascii_iterator",data:= .fields #[.str x t, .int 0 0]} rfl (.ascii rfl rfl) Q X)
  |false=>exact wpAny_pyIter_wide ha (h _ {cls:= .type "str_iterator",data:= .fields #[.str x t, .int 0 0]} rfl (.wide rfl rfl) Q X)
 |@tup xs a vs n e r=>exactλQ X=>rule _ (wpAny_pyIter_tuple ⟨_,Y.rel.keep _ _ e,rfl,_,rfl⟩ (h _ {cls:= .type "tuple_iterator",data:= .fields #[.ref a, .int 0 0]} rfl (.tup ⟨_,e,rfl,_,rfl⟩ r rfl rfl) Q X))
 |dat d=>
  induction d using Reads.casesOn with
  |@list a _ _ _ _ _ e1 e2 e3 d=>exactλQ X=>rule _ (wpAny_pyIter_list ⟨_,Y.rel.keep _ _ e1,e2,_,e3⟩ (h _ {cls:= .type "list_iterator",data:= .fields #[.ref a, .int 0 0]} rfl (.list ⟨_,e1,e2,_,by rw[e3,toArr]⟩ (az.bZ d) rfl rfl) Q X))
  |@tuple a _ _ _ _ _ e1 e2 e3 d=>exactλQ X=>rule _ (wpAny_pyIter_tuple ⟨_,Y.rel.keep _ _ e1,e2,_,e3⟩ (h _ {cls:= .type "tuple_iterator",data:= .fields #[.ref a, .int 0 0]} rfl (.tup ⟨_,e1,e2,_,by rw[e3,toArr]⟩ (az.bZ d) rfl rfl) Q X))
  |_=>exact Tp.fail
 |@cL a b x t u v e=>
  refine Tp.test (λhf Q X=> ?_) λ_=>Tp.fail
  rw[Bool.and_eq_true,Bool.and_eq_true,Bool.and_eq_true]at hf
  obtain⟨⟨V,h2⟩,h3,h4⟩:=hf
  have V:=of_decide_eq_true V
  have h3:=of_decide_eq_true h3
  have h2:=eQ h2
  have h4:=eQ h4
  refine rule _ (wpAny_pyIter_range (Y.rel.keep _ _ e) (small_one (by lia) (by lia) (by lia) (by lia)) ?_)
  have e1:Builtin.Range.rangeSize a b 1=((b-a).toNat:Int):=by
   rw[rangeSize_one]
   split<;>lia
  have key:=h (.fixed (iq a b)) {cls:= .type "range_iterator",data:= .fields #[rawInt (a+((0:Nat):Int)),rawInt (((b-a).toNat:Int)-((0:Nat):Int)),rawInt 1]} rfl (.cL (Nat.zero_le _)) Q X
  rw[show a+((0:Nat):Int)=a from Int.add_zero a,show((b-a).toNat:Int)-((0:Nat):Int)=((b-a).toNat:Int)from Int.sub_zero _]at key
  rw[e1]
  exact key
 |@obj l x hx=>
  refine iD Tp.fail λxs ho Q X=> ?_
  obtain⟨vs,n,V,h2,h3⟩:=gM Y ho hx
  exact rule _ (wpAny_pyIter_list h2 (h _ {cls:= .type "list_iterator",data:= .fields #[.ref x, .int 0 0]} rfl (.live hx rfl rfl) Q X))
 |_=>exact Tp.fail
end
structure Ok(C:Cx)(A:Around)(S:ST)(call:Addr->List U->EM U)(n:Nat):Prop where
 tok:sb C S
 attr:lO C S
 ip:mK C S
 callee:uq C S
 call:ba C n call
 room:sd A n
theorem Ok.BR{C:Cx}{A:Around}{S:ST}{call:Addr->List U->EM U}{n:Nat}(K:Ok C A S call n):BQ A:=
 ⟨K.room.handled,by have:=K.room.units;show A.units+64<9900;lia⟩
section
variable{C:Cx}{A:Around}{S:ST}{call:Addr->List U->EM U}{n:Nat}{sc:Scope}{cl:CL}{env:Env}{ih:IH}{s:Shared}{W:Wh}{z:ES}{α β γ δ:Type}
theorem Fc(K:Ok C A S call n)(I:be C A sc cl env ih){op:BoolOp}{pos:Pos}{es:List PySem.Expr}:∀{W:Wh} {z:ES} {s:Shared},SW C W z s->At sc cl env W->Tr C A (eval (.BoolOp op es pos) env) s W VR (rO ih.E op es z):=by
 induction es with
 |nil=>exactλ_ _=>Tr.fail
 |cons e r next=>cases r with
  |nil=>exactλZ H=>Tq.run (Φ:=pW C A (eval e env)) (λQ h=>BoolOp_one h) (I.E e _ _ _ Z H)
  |cons e2 r=>
   intro W z s Z H
   cases op with
   |And=>
    exact Tq.run (Φ:=pB C A (eval e env) λv=>pB C A (truthy v) λc=>pI c (pW C A (eval (.BoolOp .And (e2::r) pos) env)) (pR v)) (λQ h=>BoolOp_and h)<|
     .bind (I.E e W z s Z H) λv s' b z' F' af X J Y=> .ifs (qx K.room.handled J Y) (λL N G D U V=>next V ((H.to X).to U)) λL N G D U V=> .ret V (Y.mono U)
   |Or=>
    exact Tq.run (Φ:=pB C A (eval e env) λv=>pB C A (truthy v) λc=>pI c (pR v) (pW C A (eval (.BoolOp .Or (e2::r) pos) env))) (λQ h=>BoolOp_or h)<|
     .bind (I.E e W z s Z H) λv s' b z' F' af X J Y=> .ifs (qx K.room.handled J Y) (λL N G D U V=> .ret V (Y.mono U)) λL N G D U V=>next V ((H.to X).to U)
theorem Fd(I:be C A sc cl env ih){op:BoolOp}{pos:Pos}{whole:Sem Value}{es:List PySem.Expr}:∀{W:Wh} {z:ES} {s:Shared},SW C W z s->At sc cl env W->Tr C A (isTrue (.BoolOp op es pos) env whole) s W RB (rP ih.T op es z):=by
 induction es with
 |nil=>cases op with
  |And=>exactλV H Q Y=>isTrue_and_nil (Po.here Y V rfl rfl rfl)
  |Or=>exactλV H Q Y=>isTrue_or_nil (Po.here Y V rfl rfl rfl)
 |cons e r next=>
  intro W z s V H
  cases op with
  |And=>
   exact Tq.run (Φ:=pB C A (isTrue e env (eval e env)) λc=>pI c (pW C A (isTrue (.BoolOp .And r pos) env whole)) (pR false)) (λQ h=>isTrue_and h)<|
    .ifs (I.T e W z s V H) (λZ J K L X U=>next U (H.to X)) λZ J K L X U=> .ret U rfl
  |Or=>
   exact Tq.run (Φ:=pB C A (isTrue e env (eval e env)) λc=>pI c (pR true) (pW C A (isTrue (.BoolOp .Or r pos) env whole))) (λQ h=>isTrue_or h)<|
    .ifs (I.T e W z s V H) (λZ J K L X U=> .ret U rfl) λZ J K L X U=>next U (H.to X)
theorem unmarked{r:PySem.Expr}(h:gU r=false)(op:CmpOp):behindInMarks op r=false:=sR (by cases r<;>first|exact trivial|exact rfl) h
theorem marked{ops:List CmpOp}{rs:List PySem.Expr}(h:marks ops rs=false):(∀r∈rs,gU r=false)/\ops.length=rs.length:=by
 unfold marks at h
 rw[Bool.or_eq_false_iff,Bool.not_eq_false',List.any_eq_false]at h
 exact⟨λr hr=>Bool.eq_false_iff.mpr (h.1 r hr),Nat.eq_of_beq_eq_true h.2⟩
theorem yP{op:CmpOp}{r:PySem.Expr}{t:Sem Value}(h:gU r=false):markedEach [op] [r] [t]=[t]:=by
 show[markedBehindIn op r t]=_
 rw[markedBehindIn_of_false (unmarked h op)]
theorem FK{op e_:CmpOp}{r r':PySem.Expr}{t U:Sem Value}(h':gU r'=false):markedEach [op,e_] [r,r'] [t,U]=[t,U]:=by
 show t::markedEach [e_] [r'] [U]=_
 rw[yP h']
section
variable{M:Model}{A:Around}{s:Shared}{pos:Pos}{v:Value}{op e_:CmpOp}{r r':Sem Value}
theorem MX{Q:Value->Shared->Prop}(h:wpAny M A r (λU V=>wpAny M A (compareOp op v U) (λc s=>∃b,c= .bool b/\Q (.bool b) s) aP V) aP s):wpAny M A (compareChain pos v [op] [r]) Q aP s:=by
 show wpAny M A (do
  let U<-holding [v] r
  standAt pos
  operate [v,U] (compareOp op v U)) Q aP s
 exact wpAny_bind (wpAny_holding (wpAny_mono h (λU V W=>wpAny_bind (wpAny_standAt (wpAny_operating (wpAny_mono W (λc s q=>q.elim λb q=>q.1▸q.2) λ_ _ e=>e)))) λ_ _ e=>e))
theorem MY{Q:Value->Shared->Prop}(h:wpAny M A r (λU W=>wpAny M A (compareOp op v U) (λc V=>∃b,c= .bool b/\if b=true then wpAny M A (compareChain pos U [e_] [r']) Q aP V else Q (.bool false) V) aP W) aP s):
 wpAny M A (compareChain pos v [op,e_] [r,r']) Q aP s:=by
 show wpAny M A (do
  let U<-holding [v] r
  standAt pos
  let c<-holding [v,U] (compareOp op v U)
  release [v,U] [c]
  if<-holding [c,U] (truthy c)then compareChain pos U [e_] [r']else pure c) Q aP s
 refine wpAny_bind (wpAny_holding (wpAny_mono h (λU W X=>wpAny_bind (wpAny_standAt (wpAny_bind (wpAny_holding (wpAny_mono X (λc V q=>wpAny_bind (wpAny_release' (wpAny_bind (wpAny_holding ?_)))) λ_ _ e=>e))))) λ_ _ e=>e))
 obtain⟨b,rfl,q⟩:=q
 refine wpAny_truthy_bool ?_
 cases b with
 |true=>exact q
 |false=>exact wpAny_pure q
theorem MZ{Q:Bool->Shared->Prop}(h:wpAny M A r (λU V=>wpAny M A (compareOp op v U) (λc s=>∃b,c= .bool b/\Q b s) aP V) aP s):wpAny M A (testChain pos v [op] [r]) Q aP s:=by
 show wpAny M A (do
  let U<-holding [v] r
  standAt pos
  let c<-operate [v,U] (compareOp op v U)
  holding [c] (truthy c)) Q aP s
 exact wpAny_bind (wpAny_holding (wpAny_mono h (λU V W=>wpAny_bind (wpAny_standAt (wpAny_bind (wpAny_operating (wpAny_mono W (λc X q=>wpAny_holding (q.elim λb q=>q.1▸wpAny_truthy_bool q.2)) λ_ _ e=>e))))) λ_ _ e=>e))
theorem M0{Q:Bool->Shared->Prop}(h:wpAny M A r (λU W=>wpAny M A (compareOp op v U) (λc V=>∃b,c= .bool b/\if b=true then wpAny M A (testChain pos U [e_] [r']) Q aP V else Q false V) aP W) aP s):
 wpAny M A (testChain pos v [op,e_] [r,r']) Q aP s:=by
 show wpAny M A (do
  let U<-holding [v] r
  standAt pos
  let c<-holding [v,U] (compareOp op v U)
  release [v,U] [c]
  if<-holding [c,U] (truthy c)then testChain pos U [e_] [r']else pure false) Q aP s
 refine wpAny_bind (wpAny_holding (wpAny_mono h (λU W X=>wpAny_bind (wpAny_standAt (wpAny_bind (wpAny_holding (wpAny_mono X (λc V q=>wpAny_bind (wpAny_release' (wpAny_bind (wpAny_holding ?_)))) λ_ _ e=>e))))) λ_ _ e=>e))
 obtain⟨b,rfl,q⟩:=q
 refine wpAny_truthy_bool ?_
 cases b with
 |true=>exact q
 |false=>exact wpAny_pure q
end
theorem Tq.cmp(K:Ok C A S call n){op:CmpOp}{a b:U}{v w:Value}{Ψ:Bool->PT δ}{k:Bool->EM γ}{V:Heap->List Addr->γ->δ->Prop}(Y:SW C W z s)(Z:VR W.F W.ρ a v)(J:VR W.F W.ρ b w)
 (h2:∀s' b z' F' af,Ext W.F W.ρ F' af->SW C (W.to F' af) z' s'->Tq C (Ψ b) s' (W.to F' af) V (k b z')):Tq C (sV C A (compareOp op v w) Ψ) s W V (bd (ft op a b) k z):=
 λQ L=>(yG K.BR Y Z J).out (DT.bK L) λv s' b z' F' af q X S r g o=>⟨b,r,(Ψ b).m (λ_ _=>Po.more X g o) (h2 s' b z' F' af X S Q q)⟩
theorem Tq.RK(K:Ok C A S call n){op:CmpOp}{a b:U}{v w:Value}{g:Bool->δ}(V:SW C W z s)(Y:VR W.F W.ρ a v)(Z:VR W.F W.ρ b w):Tq C (sV C A (compareOp op v w) λb=>pR (g b)) s W (λ_ _ b d=>d=g b) (ft op a b z):=
 λQ J=>(yG K.BR V Y Z).out J λv s' b z' F' af q X S r L o=>⟨b,r,b,z',F',af,q,X,S,rfl,L,o⟩
theorem AL(K:Ok C A S call n)(I:be C A sc cl env ih){ch:Value->List CmpOp->List (Sem Value)->Sem δ}{g:Bool->δ}
 (one:∀{s v op r Q},(pB C A r λV=>sV C A (compareOp op v V) λb=>pR (g b)).w Q s->wpAny (model C.prog C.w) A (ch v [op] [r]) Q aP s)
 (two:∀{s v op e_ r r' Q},(pB C A r λV=>sV C A (compareOp op v V) λb=>pI b (pW C A (ch V [e_] [r'])) (pR (g false))).w Q s->wpAny (model C.prog C.w) A (ch v [op,e_] [r,r']) Q aP s)
 {ops:List CmpOp}{rs:List PySem.Expr}{a:U}{v:Value}(hm:∀r∈rs,gU r=false)(Y:SW C W z s)(H:At sc cl env W)(Z:VR W.F W.ρ a v):Tr C A (ch v ops (markedEach ops rs (evalEach rs env))) s W (λ_ _ b d=>d=g b) (oM ih.E a ops rs z):=by
 have sub:∀{op r W z s a v},SW C W z s->At sc cl env W->VR W.F W.ρ a v->Tr C A (ch v [op] [eval r env]) s W (λ_ _ b d=>d=g b) (bd (ih.E r) (λV=>ft op a V) z):=λ{op r W z s a v} Y H Z=>
  Tq.run (λQ h=>one h) (.bind (I.E r W z s Y H) λV s' b z' F' af X L J=> .RK K L (Z.mono X) J)
 rcases ops with _|⟨op,_|⟨e_,_|⟨_,_⟩⟩⟩<;>rcases rs with _|⟨r,_|⟨r',_|⟨_,_⟩⟩⟩<;>try exact Tr.fail
 ·rw[show evalEach [r] env=[eval r env]from rfl,yP (hm r (.head _))]
  exact sub Y H Z
 ·rw[show evalEach [r,r'] env=[eval r env,eval r' env]from rfl,FK (hm r' (.tail _ (.head _)))]
  exact Tq.run (λQ h=>two h)<| .bind (m:=ih.E r) (k:=λV=>bd (ft op a V) λb=>aE b (bd (ih.E r') λD=>ft e_ V D) (ak false)) (I.E r W z s Y H) λV s' b z' F' af X L J=> .cmp K L (Z.mono X) J λM O B T P N G=>
   Tp.test (λe=>by subst e;exact sub G ((H.to X).to N) (J.mono N)) λe=>by subst e;exact Tq.ret (v:=g false) G rfl
end
inductive kS(F:Heap)(ρ:List Addr):List (Str×U)->List (Value×Value)->Prop
 |nil:kS F ρ [] []
 |cons {x:Str} {t:Tok} {a:U} {v:Value} {es:List (Str×U)} {vs:List (Value×Value)}:VR F ρ a v->kS F ρ es vs->kS F ρ ((x,a)::es) ((.str x t,v)::vs)
theorem kS.KJ{prog:Program}{w:World}{F:Heap}{ρ:List Addr}{es:List (Str×U)}{vs:List (Value×Value)}(h:kS F ρ es vs):∃aY,Carries (strKind prog w) vs aY/\KV F ρ es aY:=by
 induction h with
 |nil=>exact⟨[],trivial, .nil⟩
 |@cons x t a v _ _ V _ ih=>
  obtain⟨aY,k1,k2⟩:=ih
  exact⟨(x,v)::aY,⟨strKind_is prog w x t,rfl,k1⟩, .cons V k2⟩
theorem KV.merged{F:Heap}{ρ:List Addr}{es:List (Str×U)}{aY:List (Str×Value)}(h:KV F ρ es aY):∀{acc:List (Str×U)} {V:List (Str×Value)},(acc.map (·.1)).Nodup->KV F ρ acc V->KV F ρ (putAll es acc) (PySem.merged V aY):=by
 induction h with
 |nil=>exactλ_ ha=>ha
 |cons h _ ih=>exactλhn ha=>ih (yD hn) (KV.stored h hn ha)
section
variable{C:Cx}{A:Around}{S:ST}{call:Addr->List U->EM U}{n:Nat}{sc:Scope}{cl:CL}{env:Env}{ih:IH}{s:Shared}{W:Wh}{z:ES}{α β γ δ:Type}
noncomputable def Dx(env:Env)(pos:Pos)(e:PySem.Expr):Sem Value:=do let x<-eval e env;standAt pos;pure x
noncomputable def sY(env:Env)(pos:Pos)(ps:List (PySem.Expr×PySem.Expr)):List (Sem Value×Sem Value):=ps.map λp=>(eval p.1 env,Dx env pos p.2)
theorem ET{k:Option PySem.Expr}{v:PySem.Expr}{ks:List (Option PySem.Expr)}{vs:List PySem.Expr}{ps:List (PySem.Expr×PySem.Expr)}(h:pairsOf (k::ks) (v::vs)=some ps):∃e qs,k=some e/\pairsOf ks vs=some qs/\ps=(e,v)::qs:=by
 cases k with
 |none=>cases h
 |some e=>
  obtain⟨qs,q,rfl⟩:=Option.map_eq_some_iff.mp (show(pairsOf ks vs).map ((e,v)::·)=some ps from h)
  exact⟨e,qs,rfl,q,rfl⟩
theorem ED{pos:Pos}{ks:List (Option PySem.Expr)}:∀{vs:List PySem.Expr} {ps:List (PySem.Expr×PySem.Expr)},pairsOf ks vs=some ps->
 (evalEachOpt ks env).zip ((evalEach vs env).map λv=>do let x<-v;standAt pos;pure x)=(sY env pos ps).map (λp=>(some p.1,p.2))/\(ps=[]->ks=[]/\vs=[]):=by
 induction ks with
 |nil=>intro vs ps h;cases vs with
  |nil=>cases h;exact⟨rfl,λ_=>⟨rfl,rfl⟩⟩
  |cons=>cases h
 |cons k ks ih=>intro vs ps h;cases vs with
  |nil=>exact(fF (o:=pairsOf (k::ks) []) (P:=λ_=>False) (by cases k<;>exact trivial) h).elim
  |cons v vs=>
   obtain⟨e,qs,rfl,q,rfl⟩:=ET h
   exact⟨congrArg ((some (eval e env),Dx env pos v)::·) (ih q).1,λh=>nomatch h⟩
theorem Fe(I:be C A sc cl env ih){pos:Pos}{ps:List (PySem.Expr×PySem.Expr)}:∀{W:Wh} {z:ES} {s:Shared},SW C W z s->At sc cl env W->Tr C A (evalPairs (sY env pos ps)) s W kS (rq ih.E ps z):=by
 induction ps with
 |nil=>exactλU H Q Y=>evalPairs_nil (Po.here Y U .nil rfl rfl)
 |cons p r next=>
  intro W z s U H
  let Ψ:Value->PT (List (Value×Value)):=λkv=>pB C A (eval p.2 env) λV=>pB C A (evalPairs (sY env pos r)) λvs=>pR ((kv,V)::vs)
  exact Tq.run (Φ:=pB C A (eval p.1 env) Ψ) (λQ h=>evalPairs_cons (wpAny_mono h (λkv F h=>wpAny_bind (wpAny_mono h (λV s' q=>wpAny_bind (wpAny_standAt (wpAny_pure q))) λ_ _ e=>e)) λ_ _ e=>e))<|
   .bind (I.E p.1 W z s U H) λkv s' b z' F' af X Z J=>pi (Φ:=λkv T=>Tq C (Ψ kv) s' (W.to F' af) kS T) J (λ_=>Tp.fail) λx t=>
    .bind (I.E p.2 _ z' s' Z (H.to X)) λV M O B S P K L N=> .map (next L ((H.to X).to K)) λR w es vs G D=> .cons (N.mono G) D
theorem FM(I:be C A sc cl env ih){ks:List (Option PySem.Expr)}{vs:List PySem.Expr}{pos:Pos}(Y:SW C W z s)(H:At sc cl env W):Tr C A (eval (.Dict ks vs pos) env) s W VR
 (bl (pairsOf ks vs) (λps=>bo (Nat.ble ps.length 15) (bd (rq ih.E ps) λes=>fU (.dict (putAll es []))) ae) z):=by
 refine bI Tr.fail λps q=>bP (λhb=> ?_) λ_=>Tr.fail
 have J:=ED (env:=env) (pos:=pos) q
 cases ps with
 |nil=>
  obtain⟨rfl,rfl⟩:=J.2 rfl
  intro Q U
  have U:Q (.obj z.os.length,⟨z.fs,z.os++[.dict []]⟩):=U
  exact wpAny_Dict_empty ⟨_,_,W.F,W.ρ++[s.heap.objs.size],U,Ext.push _ _ _,Y.alloc (s':={s with heap:=s.heap.push (dictOf [] 0)}) (o:= .dict []) (c:=dictOf [] 0) rfl ⟨[],0,rfl, .nil, .nil⟩ rfl, .obj (lF Y),rfl,rfl⟩
 |cons p ps=>
  intro Q U
  have K:=Y.dh (c:=dictOf [] 0) rfl (s':={s with heap:=s.heap.push (dictOf [] 0)}) rfl
  have L:At sc cl env (W.dh (s.heap.objs.size,dictOf [] 0)):=⟨H.scope,H.kind,H.globals,H.builtins,H.loc,H.cells⟩
  refine wpAny_Dict_pairs (knd:=strKind C.prog C.w) J.1 (λh=>nomatch h) (by unfold sY;rw[List.length_map];exact Nat.le_of_ble_eq_true hb) ?_
  refine(Fe I K L).out (DT.bK U) λvs N es z' F' af Z X V r g o=> ?_
  have Z:Q (.obj z'.os.length,⟨z'.fs,z'.os++[.dict (putAll es [])]⟩):=Z
  obtain⟨aY,c1,c2⟩:=kS.KJ (prog:=C.prog) (w:=C.w) r
  refine⟨aY,c1,⟨_,#[],0,V.rel.bz (s.heap.objs.size,dictOf [] 0) (.head _),⟨rfl,rfl,rfl⟩,rfl,λe he=>(Array.not_mem_empty e he).elim, .nil, .nil⟩,λh' hd hs=> ?_⟩
  obtain⟨ds,m,g1,g2,g3⟩:=zW hd (KV.merged (acc:=[]) c2 .nil .nil)
  refine⟨_,_,F',af++[s.heap.objs.size],Z,X.trans (Ext.push _ _ _),⟨V.base,(V.rel.Cz hs g1).label ⟨ds,m,rfl,g2,g3⟩⟩, .obj ?_,g,o⟩
  rw[<-show af.length=z'.os.length from V.rel.len]
  exact List.getElem?_concat_length
theorem zk{o:PySem.Expr}{attr:Str}{whole:Sem Value}(h:q5 o=false):attributeBase o attr env whole=whole:=by
 cases o with
 |Call f args kw p=>
  cases f with
  |Name a b=>
   cases args with
   |nil=>cases kw with
    |nil=>cases h
    |cons=>rfl
   |cons=>rfl
  |_=>rfl
 |_=>rfl
theorem Ex(K:Ok C A S call n)(I:be C A sc cl env ih){o:PySem.Expr}{attr:Str}{pos:Pos}(h0:q5 o=false)(V:SW C W z s)(H:At sc cl env W):Tr C A (eval (.Attribute o attr pos) env) s W VR (bd (ih.E o) (λv=>qT S v attr) z):=by
 refine Tq.run (Φ:=pB C A (eval o env) λv=>pW C A (getAttr v attr true)) (λQ h=> ?_) (.bind (I.E o W z s V H) λv s' b z' F' af X Y r=>yl K.attr Y r)
 have e:eval (.Attribute o attr pos) env=(do
  let U<-attributeBase o attr env (eval o env)
  standAt pos.atName
  let r<-holding [U] (getAttr U attr true)
  letTemporaryGo o U r
  pure r):=rfl
 rw[e,zk h0]
 exact wpAny_bind (wpAny_mono h (λU L Z=>wpAny_bind (wpAny_standAt (wpAny_bind (wpAny_holding (wpAny_mono Z (λr N J=>wpAny_bind (wpAny_letTemporaryGo (wpAny_pure J))) λ_ _ e=>e))))) λ_ _ e=>e)
theorem HX{es:List PySem.Expr}{pos:Pos}(h:noStar es=true)(hl:es.length<=20):methodCallForm (es.length+0) (backTo pos (starEach es env)) []=true:=by
 unfold methodCallForm
 rw[show(backTo pos (starEach es env)).all (!·.1)=true from List.all_eq_true.mpr λx hx=>by rw[tR (tP h) x hx];rfl]
 exact decide_eq_true (Nat.lt_of_le_of_lt hl (by decide))
theorem Ff(K:Ok C A S call n)(I:be C A sc cl env ih){f:PySem.Expr}{pos:Pos}{es:List PySem.Expr}(U:SW C W z s)(H:At sc cl env W):Tr C A (eval (.Call f es [] pos) env) s W VR (BM S call sc cl ih.E es pos f z):=by
 have J:∀{W z s g first L N},noStar es=true->SW C W z s->At sc cl env W->VR W.F W.ρ g L->az W.F W.ρ first N->Tr C A (callWith pos L N (backTo pos (starEach es env)) []) s W VR (bd (dw ih.E es) (λvs=>cO S call g (first++vs)) z):=λh U H r D=>
  Ez I K.call K.callee K.room (λid args vals W z s U r=>Fa K.room.handled id args vals U r) (λid args vals W z s U r=>Fb id args vals U r) h U H r D
 cases f with
 |Attribute o name apos=>
  refine bP (λY=> ?_) λ_=>Tr.fail
  rw[Bool.and_eq_true,Bool.and_eq_true,Bool.and_eq_true,Bool.not_eq_true']at Y
  obtain⟨V,h2,h3,h4⟩:=Y
  refine Tq.run (Φ:=pB C A (eval o env) λv=>pB C A (getMethod v name (do return(<-importBound o env).getD true)) λc=>pW C A (callWith pos c.1 c.2 (backTo pos (starEach es env)) [])) (λQ h=> ?_)
   (.bind (I.E o W z s U H) λv s' b z' F' af X Z r=> .bind (E8 K.attr Z r) λc P R q w y M O rc=>J h4 O ((H.to X).to M) rc.1 rc.2)
  have e:eval (.Call (.Attribute o name apos) es [] pos) env=(do
   let G<-attributeBase o name env (eval o env)
   standAt apos.atName
   methodCall o name apos pos env G (es.length+0) (backTo pos (starEach es env)) []):=rfl
  rw[e,zk h3]
  refine wpAny_bind (wpAny_mono h (λG u B=>wpAny_bind (wpAny_standAt ?_)) λ_ _ e=>e)
  unfold methodCall
  rw[HX h4 (Nat.le_of_ble_eq_true h2)]
  refine wpAny_bind (wpAny_holding (wpAny_mono B (λc k T=> ?_) λ_ _ e=>e))
  obtain⟨f,first⟩:=c
  unfold methodCallPos
  rw[V]
  exact wpAny_bind (wpAny_pure T)
 |Name id p=>exact bP (λY=>Tq.run (Φ:=pB C A (eval (.Name id p) env) λf=>pW C A (callWith pos f [] (backTo pos (starEach es env)) [])) (λQ h=>wpAny_bind h) (.bind (tT K.tok U H) λf s' b z' F' af X Z r=>J (first:=[]) Y Z (H.to X) r .nil)) λ_=>Tr.fail
 |_=>exact Tr.fail
theorem zl(I:be C A sc cl env ih){e:Option PySem.Expr}(U:SW C W z s)(H:At sc cl env W):Tr C A (evalPart e env) s W VR (pf ih.E e z):=by
 cases e with
 |none=>exactλQ V=>wpAny_pure (Po.here V U .none rfl rfl)
 |some e=>exact I.E e W z s U H
theorem EU(I:be C A sc cl env ih){e:PySem.Expr}{lo hi:Option PySem.Expr}{p pos:Pos}(Z:SW C W z s)(H:At sc cl env W):Tr C A (eval (.Subscript e (.Slice lo hi none p) pos) env) s W VR
 (bd (ih.E e) (λv=>bd (pf ih.E lo) λa=>bd (pf ih.E hi) λb=>oL v a b) z):=by
 let sl:Value->Value->Obj:=λl u=>{cls:= .type "slice",data:= .fields #[l,u, .none]}
 refine Tq.run (Φ:=pB C A (eval e env) λv=>pB C A (evalPart lo env) λl=>pB C A (evalPart hi env) λu=>⟨λQ s₃=>wpAny (model C.prog C.w) A (subscriptTail e (.Slice lo hi none p) v (.ref s₃.heap.objs.size)) Q aP {s₃ with heap:=s₃.heap.push (sl l u)},λh q=>wpAny_mono q (λ_ _=>h _ _) λ_ _ e=>e⟩)
  (λQ h=>Subscript_ (wpAny_mono h (λv T J=>wpAny_Slice (wpAny_mono J (λl K L=>wpAny_mono L (λu s₃ N=>by rw[evalPart_none];exact wpAny_pure N) λ_ _ e=>e) λ_ _ e=>e)) λ_ _ e=>e))
  (.bind (I.E e W z s Z H) λv s' b z' F' af X G r=> .bind (zl I G (H.to X)) λl K b2 P R y V D F=> .bind (zl I D ((H.to X).to V)) λu s₃ b3 z3 k j Y M O Q B=> ?_)
 obtain⟨g,U,hn,S⟩:=SW.fix (s':={s₃ with heap:=s₃.heap.push (sl l u)}) M (c:=sl l u) rfl rfl
 exact wpAny_mono (EP (A:=A) (value:=e) (lower:=lo) (upper:=hi) (p:=p) S (((r.mono V).mono Y).mono U) ⟨_,Heap.get?_push_size _ rfl,rfl,rfl⟩ ((F.mono Y).mono U) (O.mono U) Q B) (λx m p=>Po.more U rfl rfl p) λ_ _ e=>e
theorem Gl(K:Ok C A S call n)(I:be C A sc cl env ih){e i:PySem.Expr}{pos:Pos}(U:SW C W z s)(H:At sc cl env W):Tr C A (eval (.Subscript e i pos) env) s W VR (bo (isSlice i) (Dr ih.E e i) (bd (ih.E e) λv=>bd (ih.E i) λk=>cG S v k) z):=by
 refine bP (λ_=> ?_) λ_=>Tq.run (Φ:=pB C A (eval e env) λv=>pB C A (eval i env) λk=>pW C A (subscriptTail e i v k)) (λQ h=>Subscript_ h)
  (.bind (I.E e W z s U H) λv s' b z' F' af X V r=> .bind (I.E i _ z' s' V (H.to X)) λk L b2 N G D Y Z J=>E_ K.ip Z (r.mono Y) J)
 cases i with
 |Slice lo hi st p=>exact rR Tr.fail λe=>by subst e;exact EU I U H
 |_=>exact Tr.fail
noncomputable def sf(c:String)(vs:List Value):Obj:={cls:= .type c,data:= .seq vs.toArray}
noncomputable def pS(c:String)(vs:List Value):PT Value:=⟨λQ U=>vs.length<=sizeLine/\Q (.ref U.heap.objs.size) {U with heap:=U.heap.push (sf c vs)},λh q=>⟨q.1,h _ _ q.2⟩⟩
theorem FN(I:be C A sc cl env ih){es:List PySem.Expr}{pos:Pos}(U:SW C W z s)(H:At sc cl env W):Tr C A (eval (.List es pos) env) s W VR (bo (Nat.ble es.length 900&&noStar es) (bd (dw ih.E es) λvs=>aE (fits vs.length) (fU (.list vs)) ae) ae z):=
 bP (λ_=>Tq.run (Φ:=pB C A (spliced (backTo pos (starEach es env))) (pS "list")) (λQ h=>wpAny_List h) (.bind (qF I U H) λvs s' b z' F' af X V r=>Tp.test (λhf Q Y=>⟨mC hf r.length,Po.newList (s':={s' with heap:=s'.heap.push (sf "list" vs)}) (n:=0) V rfl rfl rfl r Y⟩) λ_=>Tp.fail)) λ_=>Tr.fail
theorem Fg(I:be C A sc cl env ih){es:List PySem.Expr}{k:Nat}{pos:Pos}(V:SW C W z s)(H:At sc cl env W):Tr C A (eval (.Tuple es k pos) env) s W VR (bo (Nat.ble es.length 900&&noStar es) (bd (dw ih.E es) λvs=>aE (fits vs.length) (ak (.tup vs)) ae) ae z):=by
 refine bP (λ_=>Tq.run (Φ:=pB C A (spliced (backTo pos (starEach es env))) (pS "tuple")) (λQ h=>wpAny_Tuple h) (.bind (qF I V H) λvs s' b z' F' af X Y r=>Tp.test (λhf Q Z=> ?_) λ_=>Tp.fail)) λ_=>Tr.fail
 obtain⟨J,U,hn,K⟩:=SW.fix (s':={s' with heap:=s'.heap.push (sf "tuple" vs)}) Y (c:=sf "tuple" vs) rfl rfl
 exact⟨mC hf r.length,_,z',J,af,Z,U,K, .tup hn (r.mono U),rfl,rfl⟩
theorem Fh(I:be C A sc cl env ih){l r:PySem.Expr}{op:Operator}{pos:Pos}(U:SW C W z s)(H:At sc cl env W):Tr C A (eval (.BinOp l op r pos) env) s W VR (bd (ih.E l) (λx=>bd (ih.E r) λy=>jn op x y) z):=
 Tq.run (Φ:=pB C A (eval l env) λv=>pB C A (eval r env) λk=>pW C A (binaryOp op v k)) (λQ h=>wpAny_BinOp h)<|
  .bind (I.E l W z s U H) λv s' b z' F' af X V Y=> .bind (I.E r _ z' s' V (H.to X)) λk L b2 N G D Z J K=>FD J (Y.mono Z) K
theorem HY(K:Ok C A S call n)(I:be C A sc cl env ih){op:UnaryOp}{e:PySem.Expr}{pos:Pos}(Z:SW C W z s)(H:At sc cl env W):Tr C A (eval (.UnaryOp op e pos) env) s W VR (Ds ih.E e op z):=by
 cases op with
 |Not=>
  exact Tq.run (Φ:=pB C A (eval e env) λv=>pB C A (truthy v) λc=>pR (Value.bool !c)) (λQ h=>UnaryOp_ (wpAny_mono h (λv L J=>not_of J) λ_ _ e=>e))
   (.bind (I.E e W z s Z H) λv s' b z' F' af X V Y=> .map (g:=λc=>Value.bool !c) (g':=λb=>U.bool !b) (qx K.room.handled V Y) λN G b c D hb=>by cases hb;exact VR.bool)
 |USub=>exact Tq.run (Φ:=pB C A (eval e env) λv=>pW C A (unaryOp .USub v)) (λQ h=>UnaryOp_ h) (.bind (I.E e W z s Z H) λv s' b z' F' af X V Y=>FE V Y)
 |_=>exact Tr.fail
theorem Fi(I:be C A sc cl env ih){t a b:PySem.Expr}{pos:Pos}(V:SW C W z s)(H:At sc cl env W):Tr C A (eval (.IfExp t a b pos) env) s W VR (bd (ih.T t) (λc=>aE c (ih.E a) (ih.E b)) z):=
 Tq.run (Φ:=pB C A (isTrue t env (eval t env)) λc=>pI c (pW C A (eval a env)) (pW C A (eval b env))) (λQ h=>wpAny_IfExp (wpAny_mono h (λc Y q=>by cases c<;>exact q) λ_ _ e=>e))
  (.ifs (I.T t W z s V H) (λs' z' F' af X U=>I.E a _ z' s' U (H.to X)) λs' z' F' af X U=>I.E b _ z' s' U (H.to X))
theorem EV(I:be C A sc cl env ih){t a b:PySem.Expr}{pos:Pos}{whole:Sem Value}(V:SW C W z s)(H:At sc cl env W):Tr C A (isTrue (.IfExp t a b pos) env whole) s W RB (bd (ih.T t) (λc=>aE c (ih.T a) (ih.T b)) z):=
 Tq.run (Φ:=pB C A (isTrue t env (eval t env)) λc=>pI c (pW C A (isTrue a env (eval a env))) (pW C A (isTrue b env (eval b env)))) (λQ h=>isTrue_IfExp (wpAny_mono h (λc Y q=>by cases c<;>exact q) λ_ _ e=>e))
  (.ifs (I.T t W z s V H) (λs' z' F' af X U=>I.T a _ z' s' U (H.to X)) λs' z' F' af X U=>I.T b _ z' s' U (H.to X))
theorem EE(K:Ok C A S call n)(I:be C A sc cl env ih){l:PySem.Expr}{ops:List CmpOp}{rs:List PySem.Expr}{pos:Pos}(V:SW C W z s)(H:At sc cl env W):Tr C A (eval (.Compare l ops rs pos) env) s W VR
 (bo (marks ops rs) ae (bd (ih.E l) λv=>bd (oM ih.E v ops rs) λb=>ak (.bool b)) z):=
 bP (λ_=>Tr.fail) λhm=>Tq.run (Φ:=pB C A (eval l env) λv=>pB C A (compareChain pos v ops (markedEach ops rs (evalEach rs env))) pR) (λQ h=>wpAny_bind (wpAny_mono h (λv s h=>wpAny_mono h (λ_ _ q=>q) λ_ _ e=>e) λ_ _ e=>e))
  (.bind (I.E l W z s V H) λv s' b z' F' af X Y Z=> .map (g:=id) (g':=U.bool) (AL K I MX MY (marked hm).1 Y (H.to X) Z) λJ L b c N hb=>by cases hb;exact VR.bool)
theorem EA(K:Ok C A S call n)(I:be C A sc cl env ih){l:PySem.Expr}{ops:List CmpOp}{rs:List PySem.Expr}{pos:Pos}{whole:Sem Value}(U:SW C W z s)(H:At sc cl env W):Tr C A (isTrue (.Compare l ops rs pos) env whole) s W RB
 (bo (marks ops rs) ae (bd (ih.E l) λv=>oM ih.E v ops rs) z):=
 bP (λ_=>Tr.fail) λhm=>Tq.run (Φ:=pB C A (eval l env) λv=>pW C A (testChain pos v ops (markedEach ops rs (evalEach rs env)))) (λQ h=>wpAny_bind h) (.bind (I.E l W z s U H) λv s' b z' F' af X V Y=>AL K I MZ M0 (marked hm).1 V (H.to X) Y)
theorem FO(I:be C A sc cl env ih){e:PySem.Expr}{pos:Pos}{whole:Sem Value}(U:SW C W z s)(H:At sc cl env W):Tr C A (isTrue (.UnaryOp .Not e pos) env whole) s W RB (bd (ih.T e) (λb=>ak !b) z):=
 Tq.run (Φ:=pB C A (isTrue e env (eval e env)) λc=>pR !c) (λQ h=>isTrue_not h) (.map (I.T e W z s U H) λV X b c Y hb=>congrArg not hb)
theorem yo(K:Ok C A S call n)(I:be C A sc cl env ih){e:PySem.Expr}(he:isTrue e env (eval e env)=(do let v<-eval e env;standAt e.pos;holding [v] (truthy v)))(U:SW C W z s)(H:At sc cl env W):Tr C A (isTrue e env (eval e env)) s W RB (bd (ih.E e) jg z):=
 Tq.run (Φ:=pB C A (eval e env) λv=>pW C A (truthy v)) (λQ h=>isTrue_plain h he) (.bind (I.E e W z s U H) λv s' b z' F' af X V Y=>qx K.room.handled V Y)
theorem Fj(K:Ok C A S call n)(I:be C A sc cl env ih)(e:PySem.Expr)(U:SW C W z s)(H:At sc cl env W):Tr C A (isTrue e env (eval e env)) s W RB (stepT ih e z):=by
 cases e with
 |UnaryOp op e pos=>
  cases op with
  |Not=>exact FO I U H
  |_=>exact yo K I rfl U H
 |BoolOp op es pos=>exact Fd I U H
 |Compare l ops rs pos=>exact EA K I U H
 |IfExp t a b pos=>exact EV I U H
 |_=>exact yo K I rfl U H
end
section
variable{C:Cx}{A:Around}{S:ST}{call:Addr->List U->EM U}{n:Nat}{sc:Scope}{cl:CL}{env:Env}{ih:IH}{s:Shared}{W:Wh}{z:ES}{α β γ δ:Type}
theorem yn(K:Ok C A S call n)(I:be C A sc cl env ih){t:PySem.Expr}{a:U}{v:Value}(Y:SW C W z s)(H:At sc cl env W)(Z:VR W.F W.ρ a v):Tr C A (assign t env v) s W RU (uR S sc cl ih.E t a z):=by
 cases t with
 |Name id p=>exactλQ O=>wpAny_assign_Name (tQ Y H Z Q O)
 |Attribute o attr p=>
  refine Tq.run (Φ:=pB C A (eval o env) λV=>pW C A (setAttr V attr v)) (λQ h=> ?_) (.bind (I.E o W z s Y H) λV s' b z' F' af X J r=>ym K.attr J r (Z.mono X))
  rw[arm_assign_Attribute]
  exact wpAny_bind (wpAny_holding (wpAny_mono h (λV B L=>wpAny_bind (wpAny_standAt (wpAny_bind (wpAny_holding (wpAny_mono L (λ_ D N=>wpAny_release' N) λ_ _ e=>e))))) λ_ _ e=>e))
 |Subscript o i p=>
  refine bP (λ_=>Tr.fail) λ_=>Tq.run (Φ:=pB C A (eval o env) λV=>pB C A (eval i env) λG=>pW C A (setItem V G v)) (λQ h=> ?_)
   (.bind (I.E o W z s Y H) λV s' b z' F' af X J r=> .bind (I.E i _ z' s' J (H.to X)) λG D b2 q w y M T P=>yk T (r.mono M) P ((Z.mono X).mono M))
  rw[arm_assign_Subscript]
  exact wpAny_bind (wpAny_holding (wpAny_mono h (λV B L=>wpAny_bind (wpAny_holding (wpAny_mono L (λG D N=>wpAny_bind (wpAny_standAt (wpAny_bind (wpAny_holding (wpAny_mono N (λ_ s₃ R=>wpAny_release' R) λ_ _ e=>e))))) λ_ _ e=>e))) λ_ _ e=>e))
 |_=>exact Tr.fail
theorem EF(K:Ok C A S call n)(I:be C A sc cl env ih){ts:List PySem.Expr}:∀{xs:List U} {vs:List Value} {W:Wh} {z:ES} {s:Shared},noStar ts=true->SW C W z s->At sc cl env W->az W.F W.ρ xs vs->
 Tr C A (assignInOrder ((assignEach ts env).map (·.2)) vs) s W RU (uS S sc cl ih.E ts xs z):=by
 induction ts with
 |nil=>
  intro xs vs W z s hn V H r
  cases r with
  |nil=>exactλQ Y=>wpAny_pure (Po.here Y V trivial rfl rfl)
  |cons=>exact Tr.fail
 |cons t ts next=>
  intro xs vs W z s hn V H r
  cases r with
  |nil=>exact Tr.fail
  |@cons x v xs vs h r=>
   rw[(om (mw hn).1).2]
   exact Tq.run (Φ:=pB C A (assign t env v) λ_=>pW C A (assignInOrder ((assignEach ts env).map λp:Bool×(Value->Sem Unit)=>p.2) vs)) (λQ h=>wpAny_assignInOrder_more h) (.bind (yn K I V H h) λ_ s' b z' F' af X Z _=>next (mw hn).2 Z (H.to X) (r.mono X))
theorem EG{ts:List PySem.Expr}:noStar ts=true->(assignEach ts env).length=ts.length/\(assignEach ts env).findIdx? (·.1)=none:=by
 induction ts with
 |nil=>exactλ_=>⟨rfl,rfl⟩
 |cons t ts ih=>
  intro hn
  obtain⟨V,h2⟩:=ih (mw hn).2
  rw[(om (mw hn).1).2,List.findIdx?_cons,h2]
  exact⟨congrArg (·+1) V,rfl⟩
theorem KK{F:Heap}{ρ:List Addr}{a:U}{v:Value}{xs:List U}(r:VR F ρ a v):CI a=some xs->∃x vs,v= .ref x/\IsTup F x vs.toArray/\az F ρ xs vs:=by
 induction r using VR.casesOn with
 |tup e r=>intro h;cases h;exact⟨_,_,rfl,⟨_,e,rfl,_,rfl⟩,r⟩
 |dat d=>
  induction d using Reads.casesOn with
  |tuple e1 e2 e3 d=>intro h;cases h;exact⟨_,_,rfl,⟨_,e1,e2,_,by rw[e3,toArr]⟩,az.bZ d⟩
  |_=>intro h;cases h
 |_=>intro h;cases h
theorem oa(K:Ok C A S call n)(I:be C A sc cl env ih){t:PySem.Expr}{a:U}{v:Value}(X:SW C W z s)(H:At sc cl env W)(Y:VR W.F W.ρ a v):Tr C A (assign t env v) s W RU (bv S sc cl ih.E t a z):=by
 cases t with
 |Tuple ts k p=>
  refine bI Tr.fail λxs hx=>bP (λV Q Z=> ?_) λ_=>Tr.fail
  obtain⟨x,vs,rfl,e,r⟩:=KK Y hx
  rw[Bool.and_eq_true]at V
  have hl:=EG (env:=env) V.2
  refine wpAny_assign_Tuple K.room.handled (e.keeps X.rel.keep) (hl.1.trans ((Nat.eq_of_beq_eq_true V.1).trans r.length.symm)) hl.2 λh' hx=> ?_
  have hk:∀b o,s.heap.get? b=some o->h'.get? b=some o:=λb o e=>hx b o (λq=>by subst q;rw[je]at e;cases e) e
  exact EF K I V.2 (X.grown (k:=s.toks) hk) H r Q Z
 |_=>exact yn K I X H Y
noncomputable def TC(C:Cx)(A:Around)(t:Sem Flow)(f:Flow):PT Flow:=⟨λQ U=>match f with| .next=>wpAny (model C.prog C.w) A t Q aP U|f=>Q f U,λh q=>by cases f<;>first|exact wpAny_mono q (λ_ _=>h _ _) λ_ _ e=>e|exact h _ _ q⟩
theorem mx(I:be C A sc cl env ih){b:List Stmt}:∀{W:Wh} {z:ES} {s:Shared},SW C W z s->At sc cl env W->Tr C A (execs b env) s W RF (aB ih.St b z):=by
 induction b with
 |nil=>exactλV H Q Y=>wpAny_execs_nil (Po.here Y V rfl rfl rfl)
 |cons t r next=>
  exactλV H=>Tq.run (Φ:=pB C A (exec t env) (TC C A (execs r env))) (λQ h=>wpAny_execs_cons (wpAny_mono h (λf s' q=>by cases f<;>exact q) λ_ _ e=>e))<| .bind (I.St t _ _ _ V H) λf s' b z' F' af X U hf=>by
   cases b with
   |next=>cases hf;exact next U (H.to X)
   |brk=>cases hf;exactλQ q=>Po.here q U rfl rfl rfl
   |cont=>cases hf;exactλQ q=>Po.here q U rfl rfl rfl
   |ret a=>
    obtain⟨v,rfl,Z⟩:=hf
    exactλQ q=>Po.here q U ⟨v,rfl,Z⟩ rfl rfl
end
theorem dH.cls{F:Heap}{ρ:List Addr}{src:Src}{i:Nat}{c:Obj}(h:dH F ρ src i c):∃T,c.cls= .type T/\["enumerate","zip","dict_itemiterator","dict_reverseitemiterator","odict_iterator","itertools.zip_longest","itertools.pairwise"].contains T=false:=by
 cases h with
 |ascii a b=>exact⟨_,a,by decide⟩
 |wide a b=>exact⟨_,a,by decide⟩
 |tup _ _ a b=>exact⟨_,a,by decide⟩
 |list _ _ a b=>exact⟨_,a,by decide⟩
 |live _ a b=>exact⟨_,a,by decide⟩
 |cL _=>exact⟨_,rfl,by decide⟩
set_option backward.match.sparseCases true in
theorem tV{M:Model}{A:Around}{E:Value->Shared->Prop}{s:Shared}{target:PySem.Expr}{I:Addr}{v:Value}{T:String}{o:Obj}{Q:Unit->Shared->Prop}(ho:s.heap.get? I=some o)(U:o.cls= .type T)
 (hT:["enumerate","zip","dict_itemiterator","dict_reverseitemiterator","odict_iterator","itertools.zip_longest","itertools.pairwise"].contains T=false)(h:Q () s):wpAny M A (letOwnedTupleGo target (.ref I) v) Q E s:=by
 have main:wpAny M A (do
  let(.ref r, .ref a):=(Value.ref I,v)|return
  let o<-load r
  match o.cls,o.data with
  | .type n, .fields vs=>
    if["enumerate","zip","dict_itemiterator","dict_reverseitemiterator","odict_iterator","itertools.zip_longest","itertools.pairwise"].contains n&&vs[0]?==some (rawInt a)then
     rule "for.unpacks-the-owned-tuple"
     updateField r 0 .none
  |_,_=>pure ():Sem Unit) Q E s:=by
  cases v with
  |ref a=>
   refine wpAny_bind (wpAny_load ho ?_)
   rw[U]
   cases o.data with
   |fields vs=>
    dsimp only
    rw[hT,Bool.false_and,if_neg (by decide)]
    exact wpAny_pure h
   |_=>exact wpAny_pure h
  |_=>exact wpAny_pure h
 cases target<;>first|exact main|exact wpAny_pure h
section
variable{C:Cx}{A:Around}{S:ST}{call:Addr->List U->EM U}{n:Nat}{sc:Scope}{cl:CL}{env:Env}{ih:IH}{s:Shared}{W:Wh}{z:ES}{α β γ δ:Type}
noncomputable abbrev Ends(C:Cx)(A:Around)(c:Code):(Flow->Shared->Prop)->Shared->Prop:=λQ s=>codeAny (model C.prog C.w) A c (λr s'=>match r with| .ok f=>Q f s'| .error _=>False) s
theorem At.dh(H:At sc cl env W)(p:Addr×Obj):At sc cl env (W.dh p):=⟨H.scope,H.kind,H.globals,H.builtins,H.loc,H.cells⟩
theorem SW.Pg{p:Addr×Obj}(U:SW C (W.dh p) z s):SW C W z s:=⟨U.base,U.rel.drop⟩
theorem mF{M:Model}{E:Value->Shared->Prop}{t:Sem α}{Q:α->Shared->Prop}(h:wpAny M A t Q aP s):wpAny M A t Q E s:=wpAny_mono h (λ_ _ q=>q) λ_ _ e=>e.elim
inductive vR(C:Cx)(W:Wh)(s:Shared)(ad:Addr)(src:Src)(T:Nat->ES->Prop)(s':Shared):Prop
 |mk (i:Nat) (z':ES) (F':Heap) (af:List Addr) (c:Obj) (X:Ext W.F W.ρ F' af) (S:SW C ((W.to F' af).dh (ad,c)) z' s') (it:dH F' af src i c) (q:T i z') (g:C.gk s'.gens=C.gk s.gens) (o:s'.os=s.os)
inductive AM(C:Cx)(W:Wh)(s:Shared)(T:ES->Prop)(s':Shared):Prop
 |mk (z':ES) (F':Heap) (af:List Addr) (X:Ext W.F W.ρ F' af) (S:SW C (W.to F' af) z' s') (q:T z') (g:C.gk s'.gens=C.gk s.gens) (o:s'.os=s.os)
theorem uX{N:Shared->Prop}{more:EM FL}{Q:FL×ES->Prop}{b:FL}{f:Flow}{F':Heap}{af:List Addr}{s':Shared}{U:C.GT}{jO:OsState}(hf:RF F' af b f)(q:(fu more b z).Holds Q)(hm:(more z).Holds Q->N s')(X:Ext W.F W.ρ F' af)(S:SW C (W.to F' af) z s')(g:C.gk s'.gens=U)(o:s'.os=jO):
 match f with
  | .next=>N s'
  | .cont=>N s'
  | .brk=>nV C W U jO RF Q .next s'
  | .ret v=>nV C W U jO RF Q (.ret v) s':=by
 cases b with
 |next=>cases hf;exact hm q
 |cont=>cases hf;exact hm q
 |brk=>cases hf;exact⟨_,z,F',af,q,X,S,rfl,g,o⟩
 |ret a=>
  obtain⟨w,rfl,V⟩:=hf
  exact⟨_,z,F',af,q,X,S,⟨w,rfl,V⟩,g,o⟩
theorem FP(K:Ok C A S call n)(I:be C A sc cl env ih){tg:PySem.Expr}{body:List Stmt}{src:Src}{ad:Addr}{c₀:Obj}{k₀ Y:Nat}(w:SW C (W.dh (ad,c₀)) z s)(H:At sc cl env W)(it:dH W.F W.ρ src Y c₀):
 Tp C (λQ=>Ends C A (.forLoop tg (.ref ad) body [] env) Q s) s W RF (cQ (bv S sc cl ih.E tg) (aB ih.St body) src k₀ Y z):=by
 intro Q y
 refine codeAny_forLoop_any (λk=>vR C W s ad src λi z'=>(cQ (bv S sc cl ih.E tg) (aB ih.St body) src k i z').Holds Q) (λk s' u=> ?_) k₀ ⟨Y,z,W.F,W.ρ,c₀,Ext.refl _ _,w,it,y,rfl,rfl⟩
 obtain⟨i,z',F',af,c,X,j,t,U,G,ho⟩:=u
 cases k with
 |zero=>exact U.elim
 |succ k=>
  obtain⟨o,hs,U⟩:=yM U
  refine mF (yN (W:=W.to F' af) K.room.handled j t hs ?_)
  cases o with
  |none=>exactλp V Z J=>mF (wpAny_execs_nil ⟨_,z',F',af,U,X,V,rfl,Z.trans G,J.trans ho⟩)
  |some x=>
   intro v p c₁ d V it₁ Z J
   obtain⟨T,r,hT⟩:=it₁.cls
   have D:At sc cl env ((W.to F' af).dh (ad,c₁)):=(H.to X).dh _
   refine tV (V.rel.bz (ad,c₁) (.head _)) r hT ((oa K I V D d).out (DT.bK U) λ_ bp _ kx fh ii e L l _ h a=>(mx I l (D.to L)).out (DT.bK e) λf s₃ b d7 dR dr ey M O hf fM fN=> ?_)
   have B:=(X.trans L).trans M
   have P:=((fM.trans h).trans Z).trans G
   have R:=((fN.trans a).trans J).trans ho
   have g:=uX (N:=λs'=>∃m,m<k+1/\vR C W s ad src (λi z'=>(cQ (bv S sc cl ih.E tg) (aB ih.St body) src m i z').Holds Q) s') hf ey (λq=>⟨k,Nat.lt_succ_self k,i+1,d7,dR,dr,c₁,B,O,(it₁.mono L).mono M,q,P,R⟩) B O.Pg P R
   cases f<;>exact g
theorem EW(I:be C A sc cl env ih){t:PySem.Expr}{body:List Stmt}{k₀:Nat}(O:SW C W z s)(H:At sc cl env W):
 Tp C (λQ=>Ends C A (.whileLoop t body [] env) Q s) s W RF (dg (ih.T t) (aB ih.St body) k₀ z):=by
 intro Q B
 refine codeAny_whileLoop (λk=>AM C W s λz'=>(dg (ih.T t) (aB ih.St body) k z').Holds Q) (λk s' S=> ?_) k₀ ⟨z,W.F,W.ρ,Ext.refl _ _,O,B,rfl,rfl⟩
 obtain⟨z',F',af,X,P,V,Y,ho⟩:=S
 cases k with
 |zero=>exact V.elim
 |succ k=>
  refine(I.T t _ z' s' P (H.to X)).out (DT.bK (t:=ih.T t z') V) λc i b R w y Z U J hb K L=> ?_
  cases hb
  cases c with
  |false=>exact wpAny_execs_nil ⟨_,R,w,y,Z.2 rfl,X.trans U,J,rfl,K.trans Y,L.trans ho⟩
  |true=>
   refine(mx I J ((H.to X).to U)).out (DT.bK (Z.1 rfl)) λf s₃ b u j p d o G hf r e=> ?_
   have D:=(X.trans U).trans o
   have E:=(r.trans K).trans Y
   have M:=(e.trans L).trans ho
   have g:=uX (N:=λs'=>∃m,m<k+1/\AM C W s (λz'=>(dg (ih.T t) (aB ih.St body) m z').Holds Q) s') hf d (λq=>⟨k,Nat.lt_succ_self k,u,j,p,D,G,q,E,M⟩) D G E M
   cases f<;>exact g
theorem rz{it:PySem.Expr}(h:gU it=false):∀x,foldedSetIterable it env x=pure x:=by
 exact sR (b:=gU it) (P:=∀x,foldedSetIterable it env x=pure x) (by cases it<;>first|exact trivial|exactλ_=>rfl) h
theorem zo{c:Code}{Q Q':Flow->Shared->Prop}(q:Ends C A c Q s)(h:∀x s,Q x s->Q' x s):Ends C A c Q' s:=codeAny_mono q λr s₃ q=>by
 cases r with
 |ok f=>exact h _ _ q
 |error=>exact q.elim
noncomputable def TD(C:Cx)(A:Around)(c:Code):PT Flow:=⟨λQ s=>Ends C A c Q s,λh q=>zo q h⟩
theorem Gm(K:Ok C A S call n)(I:be C A sc cl env ih){tg it:PySem.Expr}{b:List Stmt}{pos:Pos}{N:Nat}(Y:SW C W z s)(H:At sc cl env W):Tr C A (exec (.For tg it b [] pos) env) s W RF
 (bo (gU it) ae (bd (ih.E it) λx=>srcOf x λsrc=>cQ (bv S sc cl ih.E tg) (aB ih.St b) src N 0) z):=
 bP (λ_=>Tr.fail) λhs=>Tq.run (Φ:=pB C A (eval it env) λx=>pB C A (pyIter x) λi=>TD C A (.forLoop tg i b [] env))
  (λQ h=>wpAny_For (wpAny_mono h (λx G q=>wpAny_mono q (λi U q=>codeAny_mono q λr s₃ q=>by cases r<;>first|exact q|exact q.elim) λ_ _ e=>e) λ_ _ e=>e) (rz hs))<|
  .bind (I.E it W z s Y H) λx s' a z' F' af X V Z=>yO (Ψ:=λi Q U=>Ends C A (.forLoop tg i b [] env) Q U) V Z (λQ h=>h) λsrc c J hi Q L=>
   zo (FP K I (V.dh J (s':={s' with heap:=s'.heap.push c}) rfl) (H.to X) hi Q L) λ_ _ q=>Po.more (Ext.refl _ _) rfl rfl q
theorem Fk(I:be C A sc cl env ih){t:PySem.Expr}{b:List Stmt}{pos:Pos}{N:Nat}(U:SW C W z s)(H:At sc cl env W):Tr C A (exec (.While t b [] pos) env) s W RF (dg (ih.T t) (aB ih.St b) N z):=by
 intro Q V
 exact wpAny_While (codeAny_mono (EW I U H Q V) λr s₃ q=>by cases r<;>first|exact q|exact q.elim)
end
section
variable{C:Cx}{A:Around}{S:ST}{call:Addr->List U->EM U}{n:Nat}{sc:Scope}{cl:CL}{env:Env}{ih:IH}{s:Shared}{W:Wh}{z:ES}{N:Nat}{α β γ δ:Type}
theorem zZ{v:PySem.Expr}{t:Option PySem.Expr}{k:Nat}(h:oN v=false):swapsWith v t k env=pure false:=sR (by cases v<;>first|exact trivial|exact rfl) h
theorem Gn{t v:PySem.Expr}(h:(isTup t&&isTup v)=false):swappedStores [t] v env=pure none:=by
 cases t<;>first
  |rfl
  |exact sR (b:=isTup v) (by cases v<;>first|exact trivial|exact rfl) h
  |(cases v<;>rfl)
theorem EH(K:Ok C A S call n)(I:be C A sc cl env ih){t v:PySem.Expr}{pos:Pos}(U:isStar t=false)(hv:oN v=false)(ht:(isTup t&&isTup v)=false)(V:SW C W z s)(H:At sc cl env W):Tr C A (exec (.Assign [t] v pos) env) s W RF
 (bd (ih.E v) (λa=>bd (bv S sc cl ih.E t a) λ_=>ak .next) z):=
 Tq.run (Φ:=pB C A (eval v env) λx=>pB C A (assign t env x) λ_=>pR Flow.next) (λQ h=>wpAny_Assign_stores (wpAny_mono h (λx J q=>by rw[(om U).2];exact q) λ_ _ e=>e) (zZ hv) (Gn ht))<|
  .bind (I.E v W z s V H) λx s' a z' F' af X Y Z=> .map (oa K I Y (H.to X) Z) λL N b c G hb=>rfl
theorem Fl(I:be C A sc cl env ih){v:PySem.Expr}{pos:Pos}(hv:oN v=false)(U:SW C W z s)(H:At sc cl env W):Tr C A (exec (.Expr v pos) env) s W RF (bd (ih.E v) (λ_=>ak .next) z):=
 Tq.run (Φ:=pB C A (eval v env) λ_=>pR Flow.next) (λQ h=>wpAny_Expr_any h H.inter (zZ hv)) (.map (I.E v W z s U H) λV X b c Y hb=>rfl)
theorem Gp(K:Ok C A S call n)(I:be C A sc cl env ih){t v:PySem.Expr}{op:Operator}{pos:Pos}(V:SW C W z s)(H:At sc cl env W):Tr C A (exec (.AugAssign t op v pos) env) s W RF (CJ S sc cl ih.E op v t z):=by
 have tail:∀{st:Value->Sem Unit} {sa:U->EM Unit} {old:Value} {a:U} {W z s},SW C W z s->At sc cl env W->VR W.F W.ρ a old->(∀{r c W₁ O B},Ext W.F W.ρ W₁.F W₁.ρ->SW C W₁ O B->At sc cl env W₁->VR W₁.F W₁.ρ c r->Tr C A (st r) B W₁ RU (sa c O))->
  Tq C (pB C A (eval v env) λx=>pB C A (inplaceOp op old x) λr=>pB C A (st r) λ_=>pR Flow.next) s W RF (bd (ih.E v) (λx=>bd (oX op a x) λr=>bd (sa r) λ_=>ak .next) z):=λV H Y hs=>
  .bind (I.E v _ _ _ V H) λx bp b kx u k J T j=> .bind (E9 T (Y.mono J) j) λr s₃ c d7 g m R d rc=> .map (hs (W₁:=(Wh.to _ u k).to g m) (J.trans R) d ((H.to J).to R) rc) λF2 jM b c X2 hb=>rfl
 let Ψ:(Value->Sem Unit)->Value->PT Flow:=λst old=>pB C A (eval v env) λx=>pB C A (inplaceOp op old x) λr=>pB C A (st r) λ_=>pR Flow.next
 cases t with
 |Name id p=>exact Tq.run (Φ:=pB C A (loadName env id) (Ψ (storeName env id))) (λQ h=>wpAny_AugAssign_Name h) (.bind (yE K.tok V H) λold s' a z' F' af X L Y=>tail L (H.to X) Y λ_ N f rc=>tQ N f rc)
 |Attribute o attr p=>
  exact Tq.run (Φ:=pB C A (eval o env) λZ=>pB C A (getAttr Z attr true) (Ψ (setAttr Z attr))) (λQ h=>wpAny_AugAssign_AttributeAny h)
   (.bind (I.E o W z s V H) λZ q e w l fO M V G=> .bind (yl K.attr V G) λold s' a z' F' af X L Y=>tail L ((H.to M).to X) Y λD N _ rc=>ym K.attr N ((G.mono X).mono D) rc)
 |Subscript o i p=>
  refine bP (λ_=>Tr.fail) λhi=>Tq.run (Φ:=pB C A (eval o env) λZ=>pB C A (eval i env) λP=>pB C A (PySem.getItem Z P) (Ψ (setItem Z P))) (λQ h=>wpAny_AugAssign_SubscriptAny h (by cases i<;>first|exactλ_ _ _=>rfl|cases hi))
   (.bind (I.E o W z s V H) λZ q e w l fO M V G=> .bind (I.E i _ w q V (H.to M)) λP B ai O dQ eO D N y=> .bind (E' K.ip N (G.mono D) y) λold s' a z' F' af X L Y=>
     tail L (((H.to M).to D).to X) Y λJ T _ rc=>yk T (((G.mono D).mono X).mono J) ((y.mono X).mono J) rc)
 |_=>exact Tr.fail
theorem HZ(I:be C A sc cl env ih){t:PySem.Expr}{a b:List Stmt}{pos:Pos}(V:SW C W z s)(H:At sc cl env W):Tr C A (exec (.If t a b pos) env) s W RF (bd (ih.T t) (λc=>aE c (aB ih.St a) (aB ih.St b)) z):=
 Tq.run (Φ:=pB C A (isTrue t env (eval t env)) λc=>pI c (pW C A (execs a env)) (pW C A (execs b env))) (λQ h=>wpAny_If (wpAny_mono h (λc Y q=>by cases c<;>exact q) λ_ _ e=>e))
  (.ifs (I.T t W z s V H) (λs' z' F' af X U=>mx I U (H.to X)) λs' z' F' af X U=>mx I U (H.to X))
theorem EX(I:be C A sc cl env ih){t:PySem.Expr}{m:Option PySem.Expr}{pos:Pos}(V:SW C W z s)(H:At sc cl env W):Tr C A (exec (.Assert t m pos) env) s W RF (bd (ih.T t) (λc=>aE c (ak .next) ae) z):=
 Tq.run (Φ:=pB C A (isTrue t env (eval t env)) λc=>pI c (pR Flow.next) pF) (λQ h=>wpAny_Assert_holds (wpAny_mono h (λc Y q=>by cases c<;>first|exact⟨rfl,q⟩|exact q.elim) λ_ _ e=>e))
  (.ifs (I.T t W z s V H) (λs' z' F' af X U=> .ret U rfl) λs' z' F' af X U=>Tp.fail)
theorem Fm(K:Ok C A S call n)(I:be C A sc cl env ih)(e:Stmt)(U:SW C W z s)(H:At sc cl env W):Tr C A (exec e env) s W RF (BO S sc cl N ih e z):=by
 cases e with
 |Expr v pos=>exact bP (λ_=>Tr.fail) λhv=>Fl I hv U H
 |Assign ts v pos=>
  refine A' Tr.fail λt e=>bP (λ_=>Tr.fail) λhv=> ?_
  subst e
  rw[Bool.or_eq_false_iff,Bool.or_eq_false_iff]at hv
  exact EH K I hv.1 hv.2.1 hv.2.2 U H
 |AugAssign t op v pos=>exact Gp K I U H
 |If t a b pos=>exact HZ I U H
 |Return v pos=>
  cases v with
  |none=>exactλQ V=>wpAny_Return_none (Po.here V U ⟨_,rfl, .none⟩ rfl rfl)
  |some v=>exact Tq.run (Φ:=pB C A (eval v env) λv=>pR (Flow.ret v)) (λQ h=>wpAny_Return_some h) (.map (I.E v W z s U H) λX Y b c Z hb=>⟨c,rfl,hb⟩)
 |Pass pos=>exactλQ V=>wpAny_Pass (Po.here V U rfl rfl rfl)
 |Break pos=>exactλQ V=>wpAny_Break (Po.here V U rfl rfl rfl)
 |Continue pos=>exactλQ V=>wpAny_Continue (Po.here V U rfl rfl rfl)
 |While t b o pos=>exact rt Tr.fail λe=>by subst e;exact Fk I U H
 |For tg it b o pos=>exact rt Tr.fail λe=>by subst e;exact Gm K I U H
 |Assert t m pos=>exact EX I U H
 |_=>exact Tr.fail
end
section
variable{prog:Program}{w:World}{A:Around}{R:Result->Shared->Prop}{s:Shared}
theorem yp{elt target iter:PySem.Expr}{ifs:List PySem.Expr}{scope:Scope}{pos:Pos}{it acc:Value}{env:Env}(I:Nat->Shared->Prop)
 (turn:∀n s,I n s->wpAny (model prog w) A (pyNext it) (λr V=>match r with
  |none=>R (.ok .next) V
  |some v=>wpAny (model prog w) A (letOwnedTupleGo target it v) (λ_ W=>wpAny (model prog w) A (assign target env v) (λ_ X=>
    wpAny (model prog w) A (forIn ifs true λc r=>if r=true then do let ok<-isTrue c env (eval c env);pure (ForInStep.yield ok)else pure (ForInStep.yield r)) (λok s₃=>
     if ok=true then wpAny (model prog w) A (eval elt env) (λx Y=>
      wpAny (model prog w) A (call (.builtin "list.append") [acc,x]) (λ_ Z=>∃m,m<n/\I m Z) aP Y) aP s₃
     else∃m,m<n/\I m s₃) aP X) aP W) aP V) aP s)
 (n:Nat)(h:I n s):codeAny (model prog w) A (.compLoop (.ListComp elt [⟨target,iter,ifs,0⟩] scope pos) 0 it acc env) R s:=by
 refine codeAny_loop rfl I (λn s hI=> ?_) n h
 show wpAny _ A ((compTurn (.ListComp elt [⟨target,iter,ifs,0⟩] scope pos) 0 it acc env).onRaise (λx=>do noteFrame x env;theTreesLotGoes x)) _ _ s
 refine wpAny_noted ?_
 rw[compTurn_list]
 have nb:∀{α:Type} {t:Sem α} {Q:α->Shared->Prop} {E:Value->Shared->Prop} {s:Shared},wpAny (model prog w) A t Q aP s->wpAny (model prog w) A t Q E s:=λh=>wpAny_mono h (λ_ _ q=>q) λ_ _ e=>e.elim
 refine wpAny_bind (wpAny_standAt (wpAny_bind (nb (wpAny_mono (turn n s hI) (λr V U=> ?_) λ_ _ e=>e))))
 cases r with
 |none=>exact wpAny_pure U
 |some v=>
  refine wpAny_bind (nb (wpAny_mono U (λ_ W U=> ?_) λ_ _ e=>e))
  refine wpAny_bind (nb (wpAny_mono U (λ_ X K=>wpAny_bind (nb (wpAny_mono K (λok s₃ J=> ?_) λ_ _ e=>e))) λ_ _ e=>e))
  cases ok with
  |false=>exact wpAny_pure ⟨rfl,J⟩
  |true=>
   exact wpAny_bind (wpAny_bind (nb (wpAny_mono J (λx Y L=>wpAny_bind (nb (wpAny_mono L (λ_ Z N=>wpAny_pure (wpAny_pure ⟨rfl,N⟩)) λ_ _ e=>e))) λ_ _ e=>e)))
end
section
variable{C:Cx}{A:Around}{S:ST}{call:Addr->List U->EM U}{n:Nat}{sc:Scope}{cl:CL}{env:Env}{ih:IH}{s:Shared}{W:Wh}{z:ES}{N:Nat}{α β γ δ:Type}
theorem Fn{cs:List PySem.Expr}:(forIn cs false λc r=>if r=true then do let ok<-isTrue c env (eval c env);pure (ForInStep.yield ok)else pure (ForInStep.yield r):Sem Bool)=pure false:=by
 induction cs with
 |nil=>rfl
 |cons c cs ih=>
  rw[List.forIn_cons,if_neg (by decide),pure_bind]
  exact ih
theorem yw(I:be C A sc cl env ih){cs:List PySem.Expr}:∀{W:Wh} {z:ES} {s:Shared},SW C W z s->At sc cl env W->
 Tr C A (forIn cs true λc r=>if r=true then do let ok<-isTrue c env (eval c env);pure (ForInStep.yield ok)else pure (ForInStep.yield r):Sem Bool) s W RB (eB ih.T cs z):=by
 induction cs with
 |nil=>
  intro W z s U H
  rw[List.forIn_nil]
  exact Tr.pure U rfl
 |cons c cs next=>
  intro W z s U H
  rw[List.forIn_cons,if_pos rfl]
  refine Tq.run (Φ:=pB C A (isTrue c env (eval c env)) λb=>pI b (pW C A (forIn cs true λc r=>if r=true then do let ok<-isTrue c env (eval c env);pure (ForInStep.yield ok)else pure (ForInStep.yield r):Sem Bool)) (pR false))
   (λQ h=>wpAny_bind (wpAny_bind (wpAny_mono h (λb Y q=>wpAny_pure ?_) λ_ _ e=>e))) (.ifs (I.T c W z s U H) (λs' z' F' af X V=>next V (H.to X)) λs' z' F' af X V=> .ret V rfl)
  cases b with
  |true=>exact q
  |false=>
   show wpAny (model C.prog C.w) A (forIn cs false _) Q aP Y
   rw[Fn]
   exact wpAny_pure q
theorem zp{l:Nat}{D:Addr}{y:U}{v:Value}(V:SW C W z s)(X:W.ρ[l]?=some D)(Z:VR W.F W.ρ y v):Tr C A (PySem.call (.builtin "list.append") [.ref D,v]) s W (λ_ _ (_:Unit) (_:Value)=>True) (app l y z):=by
 refine nf (Φ:=λT=>Tr C A _ s W (λ_ _ (_:Unit) (_:Value)=>True) T) Tr.fail V X λxs vs n ho k1 k2 Y=>Tr.test (λhf Q J=>wpAny_list_append_plain ⟨n,k1⟩ (λh' hp hs=> ?_) (mC hf Y.length)) λ_=>Tr.fail
 obtain⟨n',g⟩:=hp
 rw[List.push_toArray]at g
 exact Po.here (z:=⟨z.fs,z.os.set l (.list (xs++[y]))⟩) J (set_list V ho X hs g (Y.append (.one Z))) trivial rfl rfl
theorem Fo(K:Ok C A S call n)(I:be C A sc cl env ih){elt tg iter:PySem.Expr}{ifs:List PySem.Expr}{scope:Scope}{pos:Pos}{src:Src}{ad D:Addr}{c₀:Obj}{k₀ J l:Nat}(t:SW C (W.dh (ad,c₀)) z s)(H:At sc cl env W)(p:W.ρ[l]?=some D)(it:dH W.F W.ρ src J c₀):
 Tp C (λQ=>Ends C A (.compLoop (.ListComp elt [⟨tg,iter,ifs,0⟩] scope pos) 0 (.ref ad) (.ref D) env) Q s) s W (λ_ _ (_:Unit) (f:Flow)=>f= .next) (dG (bv S sc cl ih.E tg) (eB ih.T ifs) (ih.E elt) l src k₀ J z):=by
 intro Q d
 refine yp (λk=>vR C W s ad src λi z'=>(dG (bv S sc cl ih.E tg) (eB ih.T ifs) (ih.E elt) l src k i z').Holds Q) (λk s' r=> ?_) k₀ ⟨J,z,W.F,W.ρ,c₀,Ext.refl _ _,t,it,d,rfl,rfl⟩
 obtain⟨i,z',F',af,c,X,e,h,U,B,ho⟩:=r
 cases k with
 |zero=>exact U.elim
 |succ k=>
  obtain⟨o,hs,U⟩:=yM U
  refine yN (W:=W.to F' af) K.room.handled e h hs ?_
  cases o with
  |none=>exactλa Y L N=>⟨_,z',F',af,U,X,Y,rfl,L.trans B,N.trans ho⟩
  |some x=>
   intro v a c₁ rx Y it₁ L N
   obtain⟨T,hc,hT⟩:=it₁.cls
   have G:At sc cl env ((W.to F' af).dh (ad,c₁)):=(H.to X).dh _
   refine tV (Y.rel.bz (ad,c₁) (.head _)) hc hT ((oa K I Y G rx).out (DT.bK U) λ_ bp _ kx fh ii ky V cF _ i6 i7=>(yw I cF (G.to V)).out (DT.bK ky) λok s₃ b P R q w Z u hb fM fN=> ?_)
   cases hb
   have M:=(X.trans V).trans Z
   have j:=((fM.trans i6).trans L).trans B
   have g:=((fN.trans i7).trans N).trans ho
   cases ok with
   |false=>exact⟨k,Nat.lt_succ_self k,i+1,P,R,q,c₁,M,u,(it₁.mono V).mono Z,w.2 rfl,j,g⟩
   |true=>
    exact(I.E elt _ P s₃ u ((G.to V).to Z)).out (DT.bK (w.1 rfl)) λy dS ya n9 i8 mr mt O dT ry mu mv=>(zp (A:=A) (W:=((((W.to F' af).dh (ad,c₁)).to fh ii).to R q).to i8 mr) (y:=ya) dT (O.get (M.get p)) ry).out (DT.bK mt)
     λ_ jN _ qq i9 i_ yg m dF _ qr qt=>⟨k,Nat.lt_succ_self k,i+1,qq,i9,i_,c₁,(M.trans O).trans m,dF,(((it₁.mono V).mono Z).mono O).mono m,yg,(qr.trans mu).trans j,(qt.trans mv).trans g⟩
theorem H4{src:Src}{i:Nat}{c:Obj}{ad:Addr}{Q:Value->Shared->Prop}(bz:s.heap.get? ad=some c)(it:dH W.F W.ρ src i c)(h:Q (.ref ad) s):wpAny (model C.prog C.w) A (pyIter (.ref ad)) Q aP s:=by
 cases it with
 |ascii a b=>exact wpAny_pyIter_striter_ascii ⟨_,bz,a,b⟩ h
 |wide a b=>exact wpAny_pyIter_striter_wide ⟨_,bz,a,b⟩ h
 |tup _ _ a b=>exact wpAny_pyIter_tupleiter ⟨_,bz,a,b⟩ h
 |list _ _ a b=>exact wpAny_pyIter_listiter ⟨_,bz,a,b⟩ h
 |live _ a b=>exact wpAny_pyIter_listiter ⟨_,bz,a,b⟩ h
 |cL _=>exact wpAny_pyIter_rangeiter bz h
theorem yQ(H:At sc cl env W){scope:Scope}:relabel scope env=cw scope sc:=by
 unfold relabel cw
 congr 1
 apply List.map_congr_left
 intro x _
 obtain⟨m,k⟩:=x
 have e1:env.scope.kind=sc.kind:=by rw[H.scope]
 have e2:env.kindOf m=lk m sc.names:=H.kindOf
 dsimp only
 rw[e1,e2]
inductive Ph(env:Env)(names:List (Str×NameKind))(acc:List (Str×Addr))(t:Sem (List (Str×Addr))):Prop
 |mk (cs:List (Str×Addr)) (e:t=pure cs) (V:∀p∈cs,env.cells.lookup p.1=some p.2) (h2:∀p∈acc,p∈cs) (h3:∀m,(m,NameKind.free)∈names->∃a,(m,a)∈cs)
theorem yR{names:List (Str×NameKind)}:∀{acc:List (Str×Addr)},(∀m,(m,NameKind.free)∈names->∃a,env.cells.lookup m=some a)->(∀p∈acc,env.cells.lookup p.1=some p.2)->
 Ph env names acc (forIn names acc (λx r=>match x with
  |(name,kind)=>if(kind==NameKind.free)=true then do let c<-cellOf env name;pure (ForInStep.yield ((name,c)::r))else pure (ForInStep.yield r))):=by
 induction names with
 |nil=>exactλ{acc} h ha=>⟨acc,rfl,ha,λp hp=>hp,λm hm=>(List.not_mem_nil hm).elim⟩
 |cons x r ih=>
  obtain⟨m,k⟩:=x
  intro acc h ha
  have h':∀m,(m,NameKind.free)∈r->∃a,env.cells.lookup m=some a:=λm hm=>h m (.tail _ hm)
  rw[List.forIn_cons]
  by_cases hk:k=NameKind.free
  ·subst hk
   obtain⟨a,W⟩:=h m (.head _)
   obtain⟨cs,e,V,h2,h3⟩:=ih (acc:=(m,a)::acc) h' (List.forall_mem_cons.mpr ⟨W,ha⟩)
   refine⟨cs, ?_,V,λp hp=>h2 p (.tail _ hp),λU hm=> ?_⟩
   ·dsimp only
    rw[if_pos (by decide),show cellOf env m=pure a by unfold cellOf;rw[W],pure_bind,pure_bind]
    exact e
   ·rcases List.mem_cons.mp hm with q|hm
    ·cases q;exact⟨a,h2 _ (.head _)⟩
    ·exact h3 U hm
  ·obtain⟨cs,e,V,h2,h3⟩:=ih (acc:=acc) h' ha
   refine⟨cs, ?_,V,h2,λU hm=> ?_⟩
   ·dsimp only
    rw[if_neg (λq=>hk (eq_of_beq q)),pure_bind]
    exact e
   ·rcases List.mem_cons.mp hm with q|hm
    ·cases q;exact(hk rfl).elim
    ·exact h3 U hm
theorem zq{cl:CL}{x:Str}{l:Nat}{names:List (Str×NameKind)}:lk x (bW cl names)=some l->(x,NameKind.free)∈names/\lk x cl=some l:=by
 induction names with
 |nil=>intro h;cases h
 |cons y r ih=>
  obtain⟨m,k⟩:=y
  intro h
  have ih:lk x (bW cl r)=some l->(x,NameKind.free)∈(m,k)::r/\lk x cl=some l:=λh=>(ih h).imp (.tail _) id
  have h:lk x (match k== .free,lk m cl with
   |true,some l=>(m,l)::bW cl r
   |_,_=>bW cl r)=some l:=h
  cases hk:k==NameKind.free with
  |false=>rw[hk]at h;exact ih h
  |true=>
   rw[hk]at h
   cases hm:lk m cl with
   |none=>rw[hm]at h;exact ih h
   |some U=>
    rw[hm]at h
    have h:(match sEq x m with|true=>some U|false=>lk x (bW cl r))=some l:=h
    cases hs:sEq x m with
    |true=>
     rw[hs]at h;cases h
     cases sEq_iff.mp hs
     exact⟨eq_of_beq hk▸ .head _,hm⟩
    |false=>rw[hs]at h;exact ih h
end
section
variable{C:Cx}{A:Around}{S:ST}{call:Addr->List U->EM U}{n:Nat}{sc:Scope}{cl:CL}{env:Env}{ih:IH}{s:Shared}{W:Wh}{z:ES}{N:Nat}{α β γ δ:Type}
noncomputable def fT(J:Addr)(i:Int)(old:Value):Obj:={cls:= .type "enumerate",dict:=none,data:= .fields #[.none, .bool false, .ref J,rawInt i, .none,old],slots:=#[]}
structure pp(a:Addr)(i:Nat)(c:Obj):Prop where
 k:c.cls= .type "list_iterator"
 d:c.data= .fields #[.ref a, .int i 0]
noncomputable def Wh.two(W:Wh)(J E:Addr)(cJ cE:Obj):Wh:=⟨W.F,W.ρ,W.φ,(E,cE)::(J,cJ)::W.aq⟩
section
variable{J E a:Addr}{cJ:Obj}{old:Value}{i l:Nat}{xs:List U}
theorem Pi(R:A.handled=none)(U:SW C (W.two J E cJ (fT J (i:Nat) old)) z s)(li:pp a i cJ)(ha:W.ρ[l]?=some a)(hl:z.os[l]?=some (.list xs)){elts:List PySem.Expr}{x1:Nat}{pt:Pos}{N:Shared->Prop}{P:Value->Shared->Prop}
 (hN:xs[i]?=none->∀s',SW C W z s'->C.gk s'.gens=C.gk s.gens->s'.os=s.os->N s')
 (I:∀x,xs[i]?=some x->∀v s' F' Y D,Ext W.F W.ρ F' W.ρ->VR F' W.ρ (.tup [.int (i:Nat),x]) v->SW C ((W.to F' W.ρ).two J E Y (fT J ((i+1:Nat):Int) D)) z s'->pp a (i+1) Y->C.gk s'.gens=C.gk s.gens->s'.os=s.os->P v s'):
 wpAny (model C.prog C.w) A (pyNext (.ref E)) (λr G=>match r with
  |none=>N G
  |some v=>wpAny (model C.prog C.w) A (letOwnedTupleGo (.Tuple elts x1 pt) (.ref E) v) (λ_ M=>P v M) aP G) aP s:=by
 have hE:IsEnum s.heap E J (i:Nat) old:=U.rel.bz (E,fT J (i:Nat) old) (.head _)
 have K:s.heap.get? J=some cJ:=U.rel.bz (J,cJ) (.tail _ (.head _))
 have hit:s.heap.IsListIter J a i:=⟨cJ,K,li.k,li.d⟩
 obtain⟨vs,n,k1,ht,r⟩:=gM (W:=W.two J E cJ (fT J (i:Nat) old)) U hl ha
 have H:E≠J:=λe=>(List.nodup_cons.mp U.rel.hN).1 (e▸ .head _)
 cases hx:xs[i]?with
 |none=>
  have hv:vs.toArray[i]?=none:=by
   rw[List.getElem?_toArray]
   exact List.getElem?_eq_none (r.length▸List.getElem?_eq_none_iff.mp hx)
  exact wpAny_pyNext_enum_end R hE hit ht hv λh' k=>hN hx _ ⟨U.base,Rel.keepsBut (p:=(J,cJ)) U.rel.drop k⟩ rfl rfl
 |some x=>
  obtain⟨v,g1,g2⟩:=r.get hx
  refine wpAny_pyNext_enum_item hE hit ht (List.getElem?_toArray.trans g1) H λh' e1 e2 e3 t O=> ?_
  refine wpAny_letOwnedTupleGo_enum e1 λh2 B L=> ?_
  obtain⟨Y,S,T,Q⟩:=e2
  have q:h2.get? s.heap.objs.size=some {cls:= .type "tuple",data:= .seq #[.int (i:Nat) s.toks,v]}:=(L.2 _ (λe=>by have:=Heap.lt_size hE;rw[<-e]at this;exact Nat.lt_irrefl _ this)).trans e3
  have y:Rel C.w.params W.F W.ρ W.φ ((E,fT J ((i+1:Nat):Int) v)::(J,Y)::W.aq) z.os z.fs h2:=Rel.two U.rel B ((L.2 J H.symm).trans S) λb o n1 u hb=>(L.2 b n1).trans (O b o n1 u hb)
  have Z:=je s.heap
  obtain⟨F',kF,j,g⟩:=y.freeze
  have hT:=j _ _ q (λm o c1 c2 c3=>by
   obtain⟨c,V,_⟩:=U.rel.at_ m o _ c1 c3 c2
   rw[Z]at V;cases V) (λp hp e=>by
   rcases List.mem_cons.mp hp with rfl|hp
   ·have:=U.rel.bz _ (.head _);rw[show(E,fT J (i:Nat) old).1=s.heap.objs.size from e,Z]at this;cases this
   ·rcases List.mem_cons.mp hp with rfl|hp
    ·rw[show J=s.heap.objs.size from e,Z]at K;cases K
    ·have:=U.rel.bz _ (.tail _ (.tail _ hp));rw[e,Z]at this;cases this)
  have X:Ext W.F W.ρ F' W.ρ:=⟨kF,[],(List.append_nil _).symm⟩
  exact I x hx _ _ F' Y v X (.tup (vs:=[.int (i:Nat) s.toks,v]) hT (.cons .int (.cons (g2.mono X) .nil))) ⟨U.base.keeps kF,g⟩ ⟨T,Q⟩ rfl rfl
inductive TE(C:Cx)(W:Wh)(s:Shared)(J E a:Addr)(T:Nat->ES->Prop)(s':Shared):Prop
 |mk (i:Nat) (z':ES) (F':Heap) (af:List Addr) (cJ:Obj) (old:Value) (X:Ext W.F W.ρ F' af) (S:SW C ((W.to F' af).two J E cJ (fT J (i:Nat) old)) z' s') (li:pp a i cJ) (q:T i z') (g:C.gk s'.gens=C.gk s.gens) (o:s'.os=s.os)
theorem At.two(H:At sc cl env W){cE:Obj}:At sc cl env (W.two J E cJ cE):=⟨H.scope,H.kind,H.globals,H.builtins,H.loc,H.cells⟩
theorem Fp(K:Ok C A S call n)(I:be C A sc cl env ih){elts:List PySem.Expr}{x1:Nat}{pt:Pos}{elt iter:PySem.Expr}{ifs:List PySem.Expr}{scope:Scope}{pos:Pos}{D:Addr}{k₀ V src:Nat}
 (r:SW C (W.two J E cJ (fT J (V:Nat) old)) z s)(H:At sc cl env W)(hD:W.ρ[l]?=some D)(ha:W.ρ[src]?=some a)(li:pp a V cJ):
 Tp C (λQ=>Ends C A (.compLoop (.ListComp elt [⟨.Tuple elts x1 pt,iter,ifs,0⟩] scope pos) 0 (.ref E) (.ref D) env) Q s) s W (λ_ _ (_:Unit) (f:Flow)=>f= .next) (gV (bv S sc cl ih.E (.Tuple elts x1 pt)) (eB ih.T ifs) (ih.E elt) l src k₀ V z):=by
 intro Q hQ
 refine yp (λk=>TE C W s J E a λi z'=>(gV (bv S sc cl ih.E (.Tuple elts x1 pt)) (eB ih.T ifs) (ih.E elt) l src k i z').Holds Q) (λk s' hJ=> ?_) k₀ ⟨V,z,W.F,W.ρ,cJ,old,Ext.refl _ _,r,li,hQ,rfl,rfl⟩
 obtain⟨i,z',F',af,cJ,old,X,S',TF,U,B,ho⟩:=hJ
 cases k with
 |zero=>exact U.elim
 |succ k=>
  obtain⟨xs,hl,U⟩:=iD (P:=λT=>T.Holds Q->∃xs,z'.os[src]?=some (.list xs)/\((Option.casesOn xs[i]? (ak ()) λx=>bd (bv S sc cl ih.E (.Tuple elts x1 pt) (.tup [.int (i:Nat),x])) λ_=>bd (eB ih.T ifs) λok=>aE ok
   (bd (ih.E elt) λy=>bd (app l y) λ_=>gV (bv S sc cl ih.E (.Tuple elts x1 pt)) (eB ih.T ifs) (ih.E elt) l src k (i+1))
   (gV (bv S sc cl ih.E (.Tuple elts x1 pt)) (eB ih.T ifs) (ih.E elt) l src k (i+1)):EM Unit) z').Holds Q) (λh=>h.elim) (λxs e h=>⟨xs,e,h⟩) U
  refine Pi (W:=W.to F' af) K.room.handled S' TF (X.get ha) hl (λhx aA Z L N=> ?_) λx hx v aA R c₁ Y q rx Z w L N=> ?_
  ·rw[hx]at U
   exact⟨_,z',F',af,U,X,Z,rfl,L.trans B,N.trans ho⟩
  ·rw[hx]at U
   have G:At sc cl env (((W.to F' af).to R af).two J E c₁ (fT J ((i+1:Nat):Int) Y)):=((H.to X).to q).two
   refine(oa K I Z G rx).out (DT.bK U) λ_ bp _ kx fh ii ky M cF _ i6 i7=>(yw I cF (G.to M)).out (DT.bK ky) λok s₃ b u j g m t c hb fM fN=> ?_
   cases hb
   have O:=((X.trans q).trans M).trans t
   have p:=((fM.trans i6).trans L).trans B
   have d:=((fN.trans i7).trans N).trans ho
   cases ok with
   |false=>exact⟨k,Nat.lt_succ_self k,i+1,u,j,g,c₁,Y,O,c,w,m.2 rfl,p,d⟩
   |true=>
    exact(I.E elt _ u s₃ c ((G.to M).to t)).out (DT.bK (m.1 rfl)) λy dS ya n9 i8 mr mt o dT ry mu mv=>(zp (A:=A) (W:=((((W.to R af).two J E c₁ (fT J ((i+1:Nat):Int) Y)).to fh ii).to j g).to i8 mr) (y:=ya) dT (o.get (O.get hD)) ry).out (DT.bK mt)
     λ_ jN _ qq i9 i_ yg ij dF _ qr qt=>⟨k,Nat.lt_succ_self k,i+1,qq,i9,i_,c₁,Y,(O.trans o).trans ij,dF,w,yg,(qr.trans mu).trans p,(qt.trans mv).trans d⟩
end
end
theorem Rel.BU{P:Params}{F:Heap}{ρ φ:List Addr}{aq:List (Addr×Obj)}{os fs:List AO}{h h':Heap}{b:Addr}{o:AO}(R:Rel P F ρ (b::φ) aq os (o::fs) h)(hl:o.live=true)(hs:Heap.SameBut b h h'):Rel P F ρ φ aq os fs h':=by
 obtain⟨c,V,_⟩:=R.at_ (.f 0) o b rfl rfl hl
 exact Rel.keepsBut (p:=(b,c)) (R.hide hl V) hs.extBut
section
variable{C:Cx}{A:Around}{S:ST}{call:Addr->List U->EM U}{n:Nat}{sc:Scope}{cl:CL}{env:Env}{ih:IH}{s:Shared}{W:Wh}{z:ES}{N:Nat}{α β γ δ:Type}
structure xl(sc:Scope)(cl:CL)(scope:Scope):Prop where
 kind:scope.kind= .function
 cell:∀y∈scope.names,y.2≠ .cell
 names:∀y∈scope.names,y.2= .local->scope.names.lookup y.1=some .local
 free:∀m,(m,NameKind.free)∈scope.names->∃l,lk m cl=some l
theorem yq{scope:Scope}(h:vk scope sc cl=true):xl sc cl scope:=by
 obtain⟨V,h2⟩:=Bool.and_eq_true_iff.mp h
 have h2:=List.all_eq_true.mp h2
 refine⟨eq_of_beq V,λy hy e=> ?_,λy hy e=> ?_,λm hm=> ?_⟩
 ·obtain⟨a,b⟩:=y
  cases (show b= .cell from e)
  exact Bool.noConfusion (h2 _ hy)
 ·obtain⟨a,b⟩:=y
  cases (show b= .local from e)
  rw[<-ua]
  exact eq_of_beq (h2 _ hy)
 ·exact Option.isSome_iff_exists.mp (Bool.and_eq_true_iff.mp (h2 _ hm)).1
theorem z0{cs:List (Str×Addr)}(U:∀p∈cs,env.cells.lookup p.1=some p.2){y:Str}{a b:Addr}(h:(y,b)∈cs)(e:env.cells.lookup y=some a):cs.lookup y=some a:=by
 induction cs with
 |nil=>cases h
 |cons p r ih=>
  obtain⟨k1,k2⟩:=List.forall_mem_cons.mp U
  rw[List.lookup_cons]
  cases q:y==p.1 with
  |true=>exact(eq_of_beq q▸k1).symm.trans e
  |false=>exact ih k2 (by
    rcases List.mem_cons.mp h with rfl|h
    ·rw[beq_self_eq_true]at q;cases q
    ·exact h)
variable{elt tg it:PySem.Expr}{ifs:List PySem.Expr}{scope:Scope}{pos:Pos}
theorem KM(K:Ok C A S call n){alt:Scope->CL->IH}(IA:∀sc cl env,be C A sc cl env (alt sc cl))(H:At sc cl env W)(O:xl sc cl scope){cs:List (Str×Addr)}(t:∀p∈cs,env.cells.lookup p.1=some p.2)(d:∀m,(m,NameKind.free)∈scope.names->∃a,(m,a)∈cs)
 {F':Heap}{af:List Addr}(X:Ext W.F W.ρ F' af){src:Src}{c:Obj}{ad D:Addr}{s' s₃:Shared}{fs:List AO}{os:List AO}(hi:dH F' af src 0 c)(G:SW C ⟨F',af++[D],W.φ,(ad,c)::W.aq⟩ ⟨fs,os++[.list []]⟩ s₃)(I:(af++[D])[os.length]?=some D)
 (i:C.gk s₃.gens=C.gk s'.gens)(ho:s₃.os=s'.os){Q:U×ES->Prop}(s:(bd (eP [] (dG (bv S (cw scope sc) (bW cl scope.names) (alt (cw scope sc) (bW cl scope.names)).E tg)
   (eB (alt (cw scope sc) (bW cl scope.names)).T ifs) ((alt (cw scope sc) (bW cl scope.names)).E elt) os.length src N 0)) (λ_=>ak (.obj os.length)) ⟨fs,os++[.list []]⟩).Holds Q):
 wpAny (model C.prog C.w) A (newFunctionEnv scope env.globals cs [] env.qual none .none (some env)) (λY v=>
  codeAny (model C.prog C.w) A (.compStart (.ListComp elt [⟨tg,it,ifs,0⟩] scope pos) 0 (.ref ad) (.ref D) {Y with scope:=relabel scope env}) (compPost (model C.prog C.w) A aP none (Po C (W.to F' af) s' VR Q) (.ref D) Y.locals) v) aP s₃:=by
 refine wpAny_newFunctionEnv O.cell (λy hy=>(List.not_mem_nil hy).elim) (λh' ⟨fo,es,fn,f1,f2,f3,f4⟩ M=> ?_) O.kind
 have Z:=je s₃.heap
 generalize hL:s₃.heap.objs.size=L at f1 M Z
 have keep:∀b o,s₃.heap.get? b=some o->h'.get? b=some o:=λb o e=>(M.2 b λq=>by rw[q,Z]at e;cases e).trans (Heap.get?_push_of_some _ e)
 have B:SW C (Wh.dh ⟨F',af++[D],L::W.φ,W.aq⟩ (ad,c)) ⟨.frame []::fs,os++[.list []]⟩ {s₃ with heap:=h',toks:=s₃.toks+([]:List (Str×Value)).length}:=
  ⟨G.base,G.rel.rM (o:= .frame []) (b:=L) keep Z f1 ⟨es,fn,f2,f3,λy=>by rw[show nsFind es y=none from f4 y];trivial⟩⟩
 have P:=hi.mono (Ext.push F' af D)
 generalize R:({newEnv scope L env.globals cs env.qual none Value.none (some env) builtinsNs with scope:=relabel scope env}:Env)=Y
 have h:At (cw scope sc) (bW cl scope.names) Y ⟨F',af++[D],L::W.φ,W.aq⟩:=by
  rw[<-R]
  refine⟨yQ H,O.kind,H.globals,H.builtins,rfl,λy l e=> ?_⟩
  obtain⟨V,h2⟩:=zq e
  obtain⟨a,k1,k2⟩:=H.cells y l h2
  obtain⟨a',x⟩:=d y V
  exact⟨a,z0 t x k1,(Ext.push F' af D).get (X.get k2)⟩
 have fin:codeAny (model C.prog C.w) A (.compLoop (.ListComp elt [⟨tg,it,ifs,0⟩] scope pos) 0 (.ref ad) (.ref D) Y) (compPost (model C.prog C.w) A aP none (Po C (W.to F' af) s' VR Q) (.ref D) L) {s₃ with heap:=h',toks:=s₃.toks+([]:List (Str×Value)).length}:=by
  refine codeAny_mono (Fo K (IA _ _ _) (iter:=it) (pos:=pos) (scope:=scope) (k₀:=N) B h I P _ (DT.bK (DT.bK s))) λr jN q=> ?_
  cases r with
  |error e=>exact q.elim
  |ok f=>
   obtain⟨_,⟨xm,xn⟩,u,z,q,k,J,_,g,o⟩:=q
   cases xm with
   |nil=>exact q.elim
   |cons fr rest=>cases fr with
    |frame j=>
     obtain⟨m,hm,_⟩:=SW.frame (W:=Wh.to ⟨F',af++[D],L::W.φ,W.aq⟩ u z) J (es:=j) (r:=rest) rfl (L:=L) rfl
     exact⟨m,hm,λTG hs=>⟨.obj os.length,⟨rest,xn⟩,u,z,q,(Ext.push F' af D).trans k,⟨J.base,Rel.BU (b:=L) (o:= .frame j) J.rel rfl hs⟩, .obj (k.get I),g.trans i,o.trans ho⟩⟩
    |_=>exact q.elim
 have wl:=codeAny_compStart_list (elt:=elt) (target:=tg) (iter:=it) (ifs:=ifs) (rest:=[]) (scope:=scope) (pos:=pos) (it:= .ref ad) (acc:= .ref D) (env:=Y) fin (mF (H4 (W:=⟨F',af++[D],L::W.φ,W.aq⟩) (B.rel.bz (ad,c) (.head _)) P fin))
 subst R
 exact wl
theorem FQ(K:Ok C A S call n)(I:be C A sc cl env ih){alt:Scope->CL->IH}(IA:∀sc cl env,be C A sc cl env (alt sc cl))(L:SW C W z s)(H:At sc cl env W):
 Tr C A (eval (.ListComp elt [⟨tg,it,ifs,0⟩] scope pos) env) s W VR (BL S sc cl N ih alt elt tg it ifs scope z):=by
 refine bP (λU=> ?_) λ_=>Tr.fail
 rw[Bool.and_eq_true,Bool.not_eq_true']at U
 have O:=yq U.1
 obtain⟨cs,G,D,_,F⟩:=yR (env:=env) (names:=scope.names) (acc:=[]) (λm hm=>let⟨l,e⟩:=O.free m hm;(H.cells m l e).imp λ_ h=>h.1) (λp hp=>(List.not_mem_nil hp).elim)
 have M:closureFor scope env=pure cs:=(bind_pure _).trans G
 let Ψ:Value->Value->PT Value:=λi acc=>⟨λQ s₃=>wpAny (model C.prog C.w) A (newFunctionEnv scope env.globals cs [] env.qual none .none (some env)) (λV Y=>
      codeAny (model C.prog C.w) A (.compStart (.ListComp elt [⟨tg,it,ifs,0⟩] scope pos) 0 i acc {V with scope:=relabel scope env}) (compPost (model C.prog C.w) A aP none Q acc V.locals) Y) aP s₃,
  λh q=>wpAny_mono q (λV Y q=>codeAny_mono q λr R q=>by
   cases r with
   |ok f=>exact q.imp λm q=>⟨q.1,λh' hs=>h _ _ (q.2 h' hs)⟩
   |error e=>exact q) λ_ _ e=>e⟩
 refine Tq.run (Φ:=pB C A (eval it env) λx=>pB C A (pyIter x) λi=>pB C A (newList []) (Ψ i)) (λQ h=>by
  rw[eval_ListComp]
  exact wpAny_comprehension_free (use:=none) rfl (rz U.2) M O.kind O.names h)<|
  .bind (I.E it W z s L H) λx s' a z' F' af X Z B=>yO (Ψ:=λi=>(pB C A (newList []) (Ψ i)).w) Z B (λQ h=>h) λsrc c T hi Q P=>wpAny_newObj_type ?_
 have J:=Z.dh T (s':={s' with heap:=s'.heap.push c}) rfl
 exact KM K IA H O D F X hi (J.alloc (o:= .list []) (c:=listOf ([]:List Value).toArray 0) rfl ⟨[],0,rfl, .nil⟩ rfl) (lF J) rfl rfl P
theorem H5(K:Ok C A S call n){alt:Scope->CL->IH}(IA:∀sc cl env,be C A sc cl env (alt sc cl))(H:At sc cl env W)(O:xl sc cl scope){cs:List (Str×Addr)}(d:∀p∈cs,env.cells.lookup p.1=some p.2)(i:∀m,(m,NameKind.free)∈scope.names->∃a,(m,a)∈cs)
 {elts:List PySem.Expr}{x1:Nat}{pt:Pos}{Z F':Heap}{G af:List Addr}(X:Ext W.F W.ρ F' af)(s:Ext Z G F' af){src:Nat}{cJ:Obj}{J E a D:Addr}{s' s₃:Shared}{fs:List AO}{os:List AO}(li:pp a 0 cJ)(ha:af[src]?=some a)(B:SW C (Wh.two ⟨F',af++[D],W.φ,W.aq⟩ J E cJ (fT J ((0:Nat):Int) .none)) ⟨fs,os++[.list []]⟩ s₃)(P:(af++[D])[os.length]?=some D)
 (v:C.gk s₃.gens=C.gk s'.gens)(ho:s₃.os=s'.os){Q:U×ES->Prop}(h:(bd (eP [] (gV (bv S (cw scope sc) (bW cl scope.names) (alt (cw scope sc) (bW cl scope.names)).E (.Tuple elts x1 pt))
   (eB (alt (cw scope sc) (bW cl scope.names)).T ifs) ((alt (cw scope sc) (bW cl scope.names)).E elt) os.length src N 0)) (λ_=>ak (.obj os.length)) ⟨fs,os++[.list []]⟩).Holds Q):
 wpAny (model C.prog C.w) A (newFunctionEnv scope env.globals cs [] env.qual none .none (some env)) (λY x=>
  codeAny (model C.prog C.w) A (.compStart (.ListComp elt [⟨.Tuple elts x1 pt,it,ifs,0⟩] scope pos) 0 (.ref E) (.ref D) {Y with scope:=relabel scope env}) (compPost (model C.prog C.w) A aP none (Po C (W.to Z G) s' VR Q) (.ref D) Y.locals) x) aP s₃:=by
 refine wpAny_newFunctionEnv O.cell (λy hy=>(List.not_mem_nil hy).elim) (λh' ⟨fo,es,fn,f1,f2,f3,f4⟩ R=> ?_) O.kind
 have I:=je s₃.heap
 generalize hL:s₃.heap.objs.size=L at f1 R I
 have keep:∀b o,s₃.heap.get? b=some o->h'.get? b=some o:=λb o e=>(R.2 b λq=>by rw[q,I]at e;cases e).trans (Heap.get?_push_of_some _ e)
 have u:SW C (Wh.two ⟨F',af++[D],L::W.φ,W.aq⟩ J E cJ (fT J ((0:Nat):Int) .none)) ⟨.frame []::fs,os++[.list []]⟩ {s₃ with heap:=h',toks:=s₃.toks+([]:List (Str×Value)).length}:=
  ⟨B.base,B.rel.rM (o:= .frame []) (b:=L) keep I f1 ⟨es,fn,f2,f3,λy=>by rw[show nsFind es y=none from f4 y];trivial⟩⟩
 generalize z:({newEnv scope L env.globals cs env.qual none Value.none (some env) builtinsNs with scope:=relabel scope env}:Env)=Y
 have yh:At (cw scope sc) (bW cl scope.names) Y ⟨F',af++[D],L::W.φ,W.aq⟩:=by
  rw[<-z]
  refine⟨yQ H,O.kind,H.globals,H.builtins,rfl,λy l e=> ?_⟩
  obtain⟨V,h2⟩:=zq e
  obtain⟨a,k1,k2⟩:=H.cells y l h2
  obtain⟨a',k3⟩:=i y V
  exact⟨a,z0 d k3 k1,(Ext.push F' af D).get (X.get k2)⟩
 have fin:codeAny (model C.prog C.w) A (.compLoop (.ListComp elt [⟨.Tuple elts x1 pt,it,ifs,0⟩] scope pos) 0 (.ref E) (.ref D) Y) (compPost (model C.prog C.w) A aP none (Po C (W.to Z G) s' VR Q) (.ref D) L) {s₃ with heap:=h',toks:=s₃.toks+([]:List (Str×Value)).length}:=by
  refine codeAny_mono (Fp K (IA _ _ _) (iter:=it) (pos:=pos) (scope:=scope) (k₀:=N) u yh P ((Ext.push F' af D).get ha) li _ (DT.bK (DT.bK h))) λr jN q=> ?_
  cases r with
  |error e=>exact q.elim
  |ok f=>
   obtain⟨_,⟨xm,xn⟩,k,j,q,t,M,_,g,o⟩:=q
   cases xm with
   |nil=>exact q.elim
   |cons fr rest=>cases fr with
    |frame c=>
     obtain⟨m,hm,_⟩:=SW.frame (W:=Wh.to ⟨F',af++[D],L::W.φ,W.aq⟩ k j) M (es:=c) (r:=rest) rfl (L:=L) rfl
     exact⟨m,hm,λTG hs=>⟨.obj os.length,⟨rest,xn⟩,k,j,q,s.trans ((Ext.push F' af D).trans t),⟨M.base,Rel.BU (b:=L) (o:= .frame c) M.rel rfl hs⟩, .obj (t.get P),g.trans v,o.trans ho⟩⟩
    |_=>exact q.elim
 have hE:IsEnum h' E J ((0:Nat):Int) .none:=u.rel.bz (E,fT J ((0:Nat):Int) .none) (.head _)
 have wl:=codeAny_compStart_list (elt:=elt) (target:= .Tuple elts x1 pt) (iter:=it) (ifs:=ifs) (rest:=[]) (scope:=scope) (pos:=pos) (it:= .ref E) (acc:= .ref D) (env:=Y) fin (mF (wpAny_pyIter_enum hE fin))
 subst z
 exact wl
theorem EY(K:Ok C A S call n)(I:be C A sc cl env ih){alt:Scope->CL->IH}(IA:∀sc cl env,be C A sc cl env (alt sc cl))(B:SW C W z s)(H:At sc cl env W){id:Str}{p V:Pos}{e:PySem.Expr}:
 Tr C A (eval (.ListComp elt [⟨tg, .Call (.Name id p) [e] [] V,ifs,0⟩] scope pos) env) s W VR (A_ S sc cl N ih alt elt tg id e ifs scope z):=by
 refine bP (λG=> ?_) λ_=>Tr.fail
 rw[Bool.and_eq_true,Bool.and_eq_true]at G
 obtain⟨R,y,u⟩:=G
 obtain⟨elts,x1,pt,rfl⟩:∃a b c,tg= .Tuple a b c:=by
  cases tg<;>first|exact⟨_,_,_,rfl⟩|cases y
 have O:=yq R
 obtain⟨cs,k,j,_,v⟩:=yR (env:=env) (names:=scope.names) (acc:=[]) (λm hm=>let⟨l,e⟩:=O.free m hm;(H.cells m l e).imp λ_ h=>h.1) (λp hp=>(List.not_mem_nil hp).elim)
 have vS:closureFor scope env=pure cs:=(bind_pure _).trans k
 let it:PySem.Expr:= .Call (.Name id p) [e] [] V
 let Ψ:Value->Value->PT Value:=λi acc=>⟨λQ s₃=>wpAny (model C.prog C.w) A (newFunctionEnv scope env.globals cs [] env.qual none .none (some env)) (λZ D=>
      codeAny (model C.prog C.w) A (.compStart (.ListComp elt [⟨.Tuple elts x1 pt,it,ifs,0⟩] scope pos) 0 i acc {Z with scope:=relabel scope env}) (compPost (model C.prog C.w) A aP none Q acc Z.locals) D) aP s₃,
  λh q=>wpAny_mono q (λZ D q=>codeAny_mono q λr jN q=>by
   cases r with
   |ok f=>exact q.imp λm q=>⟨q.1,λh' hs=>h _ _ (q.2 h' hs)⟩
   |error e=>exact q) λ_ _ e=>e⟩
 refine Tq.run (Φ:=pB C A (eval (.Name id p) env) λf=>pB C A (callWith V f [] (backTo V (starEach [e] env)) []) λx=>pB C A (pyIter x) λi=>pB C A (newList []) (Ψ i)) (λQ h=>by
  rw[eval_ListComp]
  have h':wpAny (model C.prog C.w) A (eval it env) (λx aA=>(pB C A (pyIter x) λi=>pB C A (newList []) (Ψ i)).w Q aA) aP s:=wpAny_bind h
  exact wpAny_comprehension_free (use:=none) rfl (rz (it:=it) rfl) vS O.kind O.names h')<|
  .bind (tT K.tok B H) λf s' g z' F' af X S' r=> ?_
 have hp:=tR (pos:=V) (tP (env:=env) u)
 have IT:=qF I (pos:=V) (es:=[e]) S' (H.to X)
 induction r using VR.casesOn with
 |@ty t=>
  cases t with
  |pQ=>
   intro Q Y
   refine PyProof.Rows.callWith_type (qL hp) (n_ hp (IT.out (DT.bK Y) λvs U b J fh ii q F L rv i6 i7=> ?_))
   cases rv with
   |nil=>exact q.elim
   |cons rx rest=>
    cases rest with
    |cons _ _=>exact q.elim
    |nil=>
     induction rx using VR.casesOn with
     |@obj src a hx=>
      obtain⟨xs,hl,q⟩:=iD (P:=λT=>T.Holds Q->∃xs,J.os[src]?=some (.list xs)/\(bd (fU (.list [])) (λd=>gO d λl=>bd (eP [] (gV (bv S (cw scope sc) (bW cl scope.names) (alt (cw scope sc) (bW cl scope.names)).E (.Tuple elts x1 pt)) (eB (alt (cw scope sc) (bW cl scope.names)).T ifs) ((alt (cw scope sc) (bW cl scope.names)).E elt) l src N 0)) λ_=>ak d) J).Holds Q) (λh=>h.elim) (λxs e h=>⟨xs,e,h⟩) q
      obtain⟨ws,m,k1,ht,r⟩:=gM L hl hx
      refine call_enumerate_1 k1 λh' e1 e2 e3 e4=> ?_
      obtain⟨cJ,j1,j2,j3⟩:=e2
      have fE:U.heap.get? (U.heap.objs.size+1)=none:=by
       cases q:U.heap.get? (U.heap.objs.size+1)with
       |none=>rfl
       |some o=>exact absurd (Heap.lt_size q) (by lia)
      have M:SW C ((W.to fh ii).two U.heap.objs.size (U.heap.objs.size+1) cJ (fT U.heap.objs.size ((0:Nat):Int) .none)) J {U with heap:=h'}:=⟨L.base,Rel.MM L.rel e1 j1 fE (je _) (Nat.succ_ne_self _) e4⟩
      refine wpAny_pyIter_enum e1 (wpAny_newObj_type ?_)
      exact H5 (s₃:={U with heap:=h'.push (listOf ([]:List Value).toArray 0)}) K IA H O j v (X.trans F) F ⟨j2,j3⟩ hx (M.alloc (o:= .list []) (c:=listOf ([]:List Value).toArray 0) rfl ⟨[],0,rfl, .nil⟩ rfl) (lF M) i6 i7 q
     |_=>exact q.elim
  |_=>exactλQ Y=>False.elim Y
 |_=>exactλQ Y=>False.elim Y
end
noncomputable abbrev kM(b:List (Str×Value))(x:Str×Value):List (Str×Value):=if(List.lookup x.1 b).isNone=true then b++[(x.1,x.2)]else b
theorem tY{n:Str}{l:List Str}:∀{vs:List Value},l.length=vs.length->(List.lookup n (l.zip vs)).isSome=l.contains n:=by
 induction l with
 |nil=>exactλ_=>rfl
 |cons m ms ih=>
  intro vs h
  cases vs with
  |nil=>cases h
  |cons v vs=>
   rw[List.zip_cons_cons,List.lookup_cons,List.contains_cons]
   cases n==m
   ·exact ih (Nat.succ.inj h)
   ·rfl
theorem ud{α:Type}{o:Option α}:o.isNone= !o.isSome:=by cases o<;>rfl
theorem H6{l slots:List (Str×Value)}:(∀p∈l,(List.lookup p.1 slots).isSome=true)->l.foldl kM slots=slots:=by
 induction l with
 |nil=>exactλ_=>rfl
 |cons p r ih=>
  intro h
  obtain⟨V,h2⟩:=List.forall_mem_cons.mp h
  rw[List.foldl_cons,show kM slots p=slots from if_neg (by rw[ud,V];exact nofun)]
  exact ih h2
theorem uY{a b:List Str}{v w:List Value}(h:a.length=v.length):(a++b).zip (v++w)=a.zip v++b.zip w:=List.zip_append h
theorem H7{c:List Str}:∀{p:List Str} {ws is:List Value},(p++c).Nodup->p.length=ws.length->c.length=is.length->(c.zip is).foldl kM (p.zip ws)=(p++c).zip (ws++is):=by
 induction c with
 |nil=>
  intro p ws is _ hl h
  cases is with
  |nil=>rw[List.append_nil,List.append_nil];rfl
  |cons=>cases h
 |cons x c ih=>
  intro p ws is hn hl h
  cases is with
  |nil=>cases h
  |cons i is=>
   have hx:p.contains x=false:=Bool.eq_false_iff.mpr λq=>(List.nodup_append.mp hn).2.2 x (List.contains_iff_mem.mp q) x (.head _) rfl
   rw[List.zip_cons_cons,List.foldl_cons,show kM (p.zip ws) (x,i)=(p++[x]).zip (ws++[i])from(if_pos (by rw[ud,tY hl,hx];rfl)).trans (uY (b:=[x]) (w:=[i]) hl).symm]
   have:=ih (p:=p++[x]) (ws:=ws++[i]) (is:=is) (by rw[List.append_assoc];exact hn) (by rw[List.length_append,List.length_append,hl];rfl) (Nat.succ.inj h)
   rw[this,List.append_assoc,List.append_assoc];rfl
theorem FR{names:List Str}:∀{ws:List Value},names.Nodup->names.length=ws.length->names.filterMap (λn=>(List.lookup n (names.zip ws)).map (n,·))=names.zip ws:=by
 induction names with
 |nil=>exactλ_ _=>rfl
 |cons n ns ih=>
  intro ws hn h
  cases ws with
  |nil=>cases h
  |cons w ws=>
   rw[List.nodup_cons]at hn
   rw[List.filterMap_cons,List.zip_cons_cons,List.lookup_cons,beq_self_eq_true]
   refine congrArg ((n,w)::·) (Eq.trans ?_ (ih hn.2 (Nat.succ.inj h)))
   have U:∀(l:List Str) (f g:Str->Option (Str×Value)),(∀x∈l,f x=g x)->l.filterMap f=l.filterMap g:=by
    intro l f g
    induction l with
    |nil=>intro _;rfl
    |cons a r ih=>intro hx;rw[List.filterMap_cons,List.filterMap_cons,hx a (.head _),ih λx h=>hx x (.tail _ h)]
   exact U _ _ _ λx hx=>by rw[List.lookup_cons,show(x==n)=false from beq_eq_false_iff_ne.mpr λe=>hn.1 (e▸hx)]
theorem uZ{M:Model}{A:Around}{α:Type}{c:Prop}[Decidable c]{x y:Sem α}{Q:α->Shared->Prop}{E:Value->Shared->Prop}{s:Shared}(h:¬c)(k:wpAny M A y Q E s):wpAny M A (if c then x else y) Q E s:=by
 rw[if_neg h];exact k
inductive Parts(names:List Str)(items:List Value)(v:Nat):Prop
 |mk (a b c:List Str) (ib ic:List Value) (e1:names=a++b++c) (e2:items=ib++ic) (V:(a++b).length=v) (h2:b.length=ib.length) (h3:c.length=ic.length) (h4:v+items.length-names.length=ib.length) (h5:names.length-items.length=a.length)
theorem uw{α:Type}{l:List α}{n:Nat}(h:n<=l.length):∃a b,l=a++b/\a.length=n/\n+b.length=l.length:=
 ⟨l.take n,l.drop n,(List.take_append_drop _ _).symm,List.length_take_of_le h,by rw[List.length_drop];exact Nat.add_sub_cancel' h⟩
theorem parts{names:List Str}{items:List Value}{v:Nat}(hv:v<=names.length)(hi:items.length<=names.length)(W:names.length<=v+items.length):Parts names items v:=by
 obtain⟨X,c,e1,U,m1⟩:=uw hv
 obtain⟨a,b,rfl,Y,m2⟩:=uw (l:=X) (n:=names.length-items.length) (U.symm▸Nat.sub_le_of_le_add W)
 have m3:b.length+c.length=items.length:=Nat.add_left_cancel (n:=names.length-items.length) (by rw[<-Nat.add_assoc,m2,U,m1,Nat.sub_add_cancel hi])
 obtain⟨ib,ic,e2,V,Z⟩:=uw (Nat.le.intro m3)
 exact⟨a,b,c,ib,ic,e1,e2,U,V.symm,Nat.add_left_cancel (m3.trans Z.symm),Nat.sub_eq_of_eq_add (by rw[V,<-m1,<-m3,Nat.add_comm b.length,<-Nat.add_assoc,Nat.add_comm]),Y.symm⟩
theorem H8{M:Model}{A:Around}{E:Value->Shared->Prop}{Q:List (Str×Value)->Shared->Prop}{s:Shared}{fd:FuncData}{names:List Str}{vals items:List Value}{D:Option (Array Value)}
 (V:fd.params.posonlyargs=[])(h2:fd.params.kwonlyargs=[])(h3:fd.params.vararg=none)(h4:fd.params.kwarg=none)(h5:fd.params.args.map (·.arg)=names)
 (hd:∀Q:Option (Array Value)->Shared->Prop,Q D s->wpAny M A (seqItems? fd.defaults) Q E s)(N:(D.getD #[]).toList=items) (hn:names.Nodup)
 (hv:vals.length<=names.length) (hi:items.length<=names.length) (G:names.length<=vals.length+items.length)
 (h:Q (names.zip (vals++items.drop (vals.length+items.length-names.length))) s):wpAny M A (bindArgs fd ⟨vals,[]⟩) Q E s:=by
 obtain⟨a,b,c,ib,ic,e1,e2,U,H,Y,I,Z⟩:=parts hv hi G
 have F:items.drop (vals.length+items.length-names.length)=ic:=by rw[I,e2,List.drop_left]
 have J:names.zip vals=(a++b).zip vals:=by
  have z:=uY (b:=c) (w:=[]) U
  rw[List.append_nil,List.zip_nil_right,List.append_nil]at z
  rw[e1,z]
 have hf:∀(l:List (Str×Value)) (init:List (Str×Value)) (Q:List (Str×Value)->Shared->Prop),Q (l.foldl kM init) s->
  wpAny M A (forIn l init λx W=>if(List.lookup x.1 W).isNone=true then pure (ForInStep.yield (W++[(x.1,x.2)]))else pure (ForInStep.yield W)) Q E s:=by
  intro l
  induction l with
  |nil=>intro init Q X;rw[List.forIn_nil];exact wpAny_pure X
  |cons p r ih=>
   intro init Q X
   rw[List.forIn_cons]
   have hs:(if(List.lookup p.1 init).isNone=true then(pure (ForInStep.yield (init++[(p.1,p.2)])):Sem (ForInStep (List (Str×Value))))else pure (ForInStep.yield init))=pure (ForInStep.yield (kM init p)):=by
    unfold kM;split<;>rfl
   rw[hs]
   exact wpAny_bind (wpAny_pure (ih _ _ X))
 have K:items.drop (items.length-names.length)=items:=by rw[Nat.sub_eq_zero_of_le hi,List.drop_zero]
 have hs:((names.drop (names.length-(items.drop (items.length-names.length)).length)).zip (items.drop (items.length-names.length))).foldl kM (names.zip vals)=names.zip (vals++ic):=by
  rw[K,Z,J,e1,List.append_assoc,List.drop_left,e2,uY H,List.foldl_append,H6 (l:=b.zip ib) (slots:=(a++b).zip vals) (λp hp=>by rw[tY U];exact List.contains_iff_mem.mpr (List.mem_append_right _ (List.of_mem_zip (a:=p.1) (b:=p.2) hp).1)),
   H7 (by rw[e1]at hn;exact hn) U Y,List.append_assoc]
 have hm:(!(List.filter (λn=>(List.lookup n (names.zip vals)).isNone) (List.take (names.length-(items.drop (items.length-names.length)).length) names)).isEmpty)=false:=by
  rw[K,List.filter_eq_nil_iff.mpr];rfl
  intro n L
  rw[Z,e1,List.append_assoc,List.take_left]at L
  rw[J,ud,tY U,List.contains_iff_mem.mpr (List.mem_append_left _ L)]
  exact nofun
 have hl:names.length=(vals++ic).length:=by rw[e1,List.length_append,U,Y,List.length_append]
 rw[F]at h
 cases hp:fd.params with
 |mk po O B C S kw T=>
  rw[hp]at V h2 h3 h4 h5
  cases V;cases h2;cases h3;cases h4
  unfold bindArgs
  rw[hp]
  subst h5
  refine wpAny_bind (wpAny_pure (wpAny_bind (hd _ ?_)))
  rw[N]
  refine uZ (λq=>Nat.not_lt.mpr hv (of_decide_eq_true (Bool.and_eq_true_iff.mp q).1)) (uZ (λq=>Bool.noConfusion (hm.symm.trans q)) (wpAny_bind (hf _ _ _ (wpAny_bind (wpAny_pure (uZ nofun (wpAny_pure ?_)))))))
  have e:=FR hn hl
  rw[<-hs]at e h
  exact Eq.mpr (congrArg (λb=>Q b s) ((congrArg (List.filterMap _) (List.append_nil _)).trans e)) h
structure FnAt(g:Bool)(F:Heap)(ρ:List Addr)(f:Addr)(fi:FI)(o:Obj)(fd:FuncData)(its:List Value)(D:Option (Array Value)):Prop where
 at_:F.get? f=some o
 data:o.data= .func fd
 scope:fd.scope=fi.scope
 body:fd.body= .stmts fi.body
 globals:fd.globals=mainGlobals
 builtins:fd.builtins=builtinsNs
 closure:fd.closure=[]
 xq:fd.scope.isCoroutine=false
 gen:fd.scope.isGenerator=g
 kind:fd.scope.kind= .function
 code:F.CodeRec fd.code fd.qualname
 p1:fd.params.posonlyargs=[]
 p2:fd.params.kwonlyargs=[]
 p3:fd.params.vararg=none
 p4:fd.params.kwarg=none
 p5:fd.params.args.map (·.arg)=fi.names
 nodup:fi.names.Nodup
 dflt:∀(M:Model) (A:Around) (E:Value->Shared->Prop) (s:Shared) (Q:Option (Array Value)->Shared->Prop),(∀b o,F.get? b=some o->s.heap.get? b=some o)->Q D s->wpAny M A (seqItems? fd.defaults) Q E s
 items:(D.getD #[]).toList=its
 rel:az F ρ fi.dflt its
structure Pj(C:Cx)(S:ST):Prop where
 fn:∀f fi,S.fn f=some fi->∀F ρ,gq C F->∃o fd items D,FnAt false F ρ f fi o fd items D
 cls:∀c g,S.cls c=some g->makesIn C.K c=true/\findIn C.K (.ref c) "__init__"=some (some (.ref g))/\typeIn C.K (.ref g)=some (.type "function")
section
variable{C:Cx}{A:Around}{S:ST}{call:Addr->List U->EM U}{n:Nat}{sc:Scope}{cl:CL}{env:Env}{ih:IH}{s:Shared}{W:Wh}{z:ES}{N:Nat}{α β γ δ:Type}
theorem Pk{it:PySem.Expr}:(wi it).elim True λq=>it= .Call (.Name q.1 q.2.1) [q.2.2.1] [] q.2.2.2:=by
 cases it with
 |Call f es kw pos=>cases f with
  |Name id p=>cases es with
   |nil=>trivial
   |cons e r=>cases r with
    |nil=>cases kw with
     |nil=>
      show Option.elim (match sEq id "enumerate"with|true=>some (id,p,e,pos)|false=>none) True _
      cases sEq id "enumerate"<;>first|trivial|exact rfl
     |cons=>trivial
    |cons=>trivial
  |_=>trivial
 |_=>trivial
theorem Fq(K:Ok C A S call n)(I:be C A sc cl env ih){alt:Scope->CL->IH}(IA:∀sc cl env,be C A sc cl env (alt sc cl))(e:PySem.Expr)(U:SW C W z s)(H:At sc cl env W):Tr C A (eval e env) s W VR (BN S call sc cl N ih alt e z):=by
 cases e with
 |Constant c k p=>exact FC U
 |Name id p=>exact tT K.tok U H
 |BoolOp op es p=>exact Fc K I U H
 |BinOp a op b p=>exact Fh I U H
 |UnaryOp op e p=>exact HY K I U H
 |IfExp t a b p=>exact Fi I U H
 |Compare l ops rs p=>exact EE K I U H
 |Attribute o a p=>exact bP (λ_=>Tr.fail) λh=>Ex K I h U H
 |Call f es kw p=>exact rt Tr.fail λe=>by subst e;exact Ff K I U H
 |Subscript e i p=>exact Gl K I U H
 |List es p=>exact FN I U H
 |Tuple es k p=>exact Fg I U H
 |Dict ks vs p=>exact FM I U H
 |ListComp elt gens scope p=>
  refine A' Tr.fail λg e=>bP (λh=> ?_) λ_=>Tr.fail
  subst e
  obtain⟨tg,it,ifs,k⟩:=g
  cases of_decide_eq_true h
  cases h2:wi it with
  |none=>exact FQ K I IA U H
  |some q=>
   have e:=fF Pk h2
   subst e
   exact EY K I IA U H
 |_=>exact Tr.fail
theorem qM(K:Ok C A S call n)(m:Nat):∀(sc:Scope) (cl:CL) (env:Env),be C A sc cl env (bM S call N m sc cl):=by
 induction m with
 |zero=>exactλsc cl env=>⟨λ_ _ _ _ _ _=>Tr.fail,λ_ _ _ _ _ _=>Tr.fail,λ_ _ _ _ _ _=>Tr.fail⟩
 |succ m ih=>exactλsc cl env=>⟨λe W z s U H=>Fq K (ih sc cl env) ih e U H,λe W z s U H=>Fj K (ih sc cl env) e U H,λe W z s U H=>Fm K (ih sc cl env) e U H⟩
theorem Fs{a:Addr}{rest:List Value}{kw:List (Str×Value)}:(Code.builtin "type.__call__" ⟨.ref a::rest,kw⟩).weight=1/\(Code.builtin "type.__call__" ⟨.ref a::rest,kw⟩).cUnits=1:=by
 constructor
 ·show(0+1+(if guardIds.contains "type.__call__"then 1 else 0)+0:Nat)=1
  decide
 ·rfl
end
noncomputable def mO(F:Heap)(ρ:List Addr)(cl:CL)(cs:List (Str×Addr)):Prop:=∀x l,lk x cl=some l->∃a,cs.lookup x=some a/\ρ[l]?=some a
theorem mO.mono{F F':Heap}{ρ af:List Addr}{cl:CL}{cs:List (Str×Addr)}(X:Ext F ρ F' af)(h:mO F ρ cl cs):mO F' af cl cs:=λx l e=>let⟨a,V,h2⟩:=h x l e;⟨a,V,X.get h2⟩
inductive jw(F:Heap)(ρ:List Addr):List (Str×U)->List (Str×Value)->Prop
 |nil:jw F ρ [] []
 |cons {x:Str} {a:U} {v:Value} {bs:List (Str×U)} {vs:List (Str×Value)}:VR F ρ a v->jw F ρ bs vs->jw F ρ ((x,a)::bs) ((x,v)::vs)
theorem jw.mono{F F':Heap}{ρ af:List Addr}(X:Ext F ρ F' af){bs:List (Str×U)}{vs:List (Str×Value)}(h:jw F ρ bs vs):jw F' af bs vs:=by
 induction h with
 |nil=>exact .nil
 |cons h r ih=>exact .cons (h.mono X) ih
theorem jw.zip{F:Heap}{ρ:List Addr}{names:List Str}:∀{xs:List U} {vs:List Value},az F ρ xs vs->jw F ρ (names.zip xs) (names.zip vs):=by
 induction names with
 |nil=>intro xs vs _;rw[List.zip_nil_left,List.zip_nil_left];exact .nil
 |cons m names ih=>
  intro xs vs h
  cases h with
  |nil=>exact .nil
  |cons h r=>exact .cons h (ih r)
section
variable{C:Cx}{A:Around}{S:ST}{call:Addr->List U->EM U}{n:Nat}{sc:Scope}{cl:CL}{env:Env}{ih:IH}{s:Shared}{W:Wh}{z:ES}{N fuel:Nat}{α β γ δ:Type}
theorem Ft{names:List (Str×NameKind)}:∀{W:Wh} {z:ES} {s:Shared} {accL:CL} {accA:List (Str×Addr)},SW C W z s->mO W.F W.ρ accL accA->
 Tr C A (forIn names accA (λx cells=>match x with
  |(name,kind)=>if(kind==NameKind.cell)=true then do let a<-alloc {cls:= .type "cell",data:= .cell none};pure (ForInStep.yield ((name,a)::cells))else pure (ForInStep.yield cells)):Sem (List (Str×Addr))) s W mO (gl names accL z):=by
 induction names with
 |nil=>
  intro W z s accL accA U V
  rw[List.forIn_nil]
  exact Tr.pure U V
 |cons x r ih=>
  obtain⟨m,k⟩:=x
  intro W z s accL accA U V
  rw[List.forIn_cons]
  refine bP (λhk Q X=> ?_) λhk Q X=> ?_
  ·dsimp only
   rw[if_pos hk]
   refine wpAny_bind (wpAny_bind (wpAny_alloc (wpAny_pure ?_)))
   have Y:=U.alloc (o:= .cell none) (c:={cls:= .type "cell",data:= .cell none}) rfl ⟨none,rfl,trivial⟩ (s':={s with heap:=s.heap.push {cls:= .type "cell",data:= .cell none}}) rfl
   refine wpAny_mono (ih Y (accL:=(m,z.os.length)::accL) (accA:=(m,s.heap.objs.size)::accA) (λx l e=> ?_) Q X) (λv s' p=>Po.more (Ext.push _ _ _) rfl rfl p) λ_ _ e=>e
   have e:(match sEq x m with|true=>some z.os.length|false=>lk x accL)=some l:=e
   rw[List.lookup_cons,AH]
   cases hs:sEq x m with
   |true=>rw[hs]at e;cases e;exact⟨_,rfl,lF U⟩
   |false=>rw[hs]at e;exact mO.mono (Ext.push W.F W.ρ _) V x l e
  ·dsimp only
   rw[hk,if_neg (by decide)]
   exact wpAny_bind (wpAny_pure (ih U V Q X))
noncomputable def Be(env:Env)(x:Str×Value)(_:PUnit):Sem (ForInStep PUnit):=do storeName env x.1 x.2;pure (ForInStep.yield PUnit.unit)
theorem Fu{bs:List (Str×U)}:∀{vs:List (Str×Value)} {W:Wh} {z:ES} {s:Shared},At sc cl env W->jw W.F W.ρ bs vs->SW C W z s->Tr C A (forIn vs PUnit.unit (Be env)) s W (λ_ _ (_:Unit) (_:PUnit)=>True) (storeAll sc cl bs z):=by
 induction bs with
 |nil=>
  intro vs W z s H r V
  cases r
  rw[List.forIn_nil]
  exact Tr.pure V trivial
 |cons p bs Y=>
  intro vs W z s H r V
  cases r with
  |@cons x a v _ vs h r=>
   rw[List.forIn_cons]
   exact Tq.run (Φ:=pB C A (storeName env x v) λ_=>pW C A (forIn vs PUnit.unit (Be env))) (λQ h=>wpAny_bind (wpAny_bind (wpAny_mono h (λ_ _ q=>wpAny_pure q) λ_ _ e=>e)))
    (.bind (tQ V H h) λ_ s' b z' F' af X Z _=>Y (H.to X) (r.mono X) Z)
structure Base(C:Cx)(S:ST):Prop where
 tok:sb C S
 attr:lO C S
 ip:mK C S
 callee:uq C S
 fns:Pj C S
theorem FS{fi:FI}{args:List U}{bs:List (Str×U)}(h:gW fi args=some bs):args.length<=fi.names.length/\fi.dflt.length<=fi.names.length/\fi.names.length<=args.length+fi.dflt.length/\bs=fi.names.zip (args++fi.dflt.drop (args.length+fi.dflt.length-fi.names.length)):=by
 unfold gW at h
 cases q:(Nat.ble args.length fi.names.length&&(Nat.ble fi.dflt.length fi.names.length&&Nat.ble fi.names.length (args.length+fi.dflt.length)))with
 |true=>
  rw[q]at h
  cases h
  rw[Bool.and_eq_true,Bool.and_eq_true]at q
  exact⟨Nat.le_of_ble_eq_true q.1,Nat.le_of_ble_eq_true q.2.1,Nat.le_of_ble_eq_true q.2.2,rfl⟩
 |false=>rw[q]at h;cases h
theorem yx{B:Around}{g:Bool}{f:Addr}{fi:FI}{o:Obj}{fd:FuncData}{its:List Value}{D:Option (Array Value)}(T:FnAt g W.F W.ρ f fi o fd its D)(Z:SW C W z s){args:List U}{vals:List Value}(hr:az W.F W.ρ args vals){bs:List (Str×U)}(hb:gW fi args=some bs)
 {K:CL->EM β}{Q:β×ES->Prop}(N:(bd (gl fi.scope.names []) (λcl=>bd (storeAll fi.scope cl bs) λ_=>K cl) ⟨.frame []::z.fs,z.os⟩).Holds Q){Φ:Env->Shared->Prop}{E:Value->Shared->Prop}
 (h:∀L cl env Y V X s₃,Ext W.F W.ρ V X->SW C ⟨V,X,L::W.φ,W.aq⟩ Y s₃->At fi.scope cl env ⟨V,X,L::W.φ,W.aq⟩->(K cl Y).Holds Q->C.gk s₃.gens=C.gk s.gens->s₃.os=s.os->Φ env s₃):
 wpAny (model C.prog C.w) B (bindArgs fd ⟨vals,[]⟩) (λbinds M=>wpAny (model C.prog C.w) B (newFunctionEnv fd.scope fd.globals fd.closure binds (fd.qualname++".<locals>.") (some f) fd.code none fd.builtins) Φ E M) E s:=by
 obtain⟨O,b2,b3,rfl⟩:=FS hb
 have J:=hr.length
 have ld:=T.rel.length
 refine H8 T.p1 T.p2 T.p3 T.p4 T.p5 (λQ q=>T.dflt _ _ _ s Q Z.rel.keep q) T.items T.nodup (J▸O) (ld▸b2) (J.symm▸ld.symm▸b3) ?_
 rw[T.closure,J,ld]
 have A:=jw.zip (names:=fi.names) (hr.append (T.rel.drop (args.length+fi.dflt.length-fi.names.length)))
 refine wpAny_bind (wpAny_alloc ?_)
 have S:SW C ⟨W.F,W.ρ,s.heap.objs.size::W.φ,W.aq⟩ ⟨.frame []::z.fs,z.os⟩ {s with heap:=s.heap.push {cls:= .type "frame",data:= .dict #[]}}:=
  ⟨Z.base,Z.rel.rM (o:= .frame []) (λb o e=>Heap.get?_push_of_some _ e) (je _) (Heap.get?_push_size _ rfl) ⟨#[],0,rfl,λe he=>(Array.not_mem_empty e he).elim,λy=>trivial⟩⟩
 rw[<-T.scope]at N
 refine wpAny_bind ((Ft S (accL:=[]) (accA:=[]) (λx l e=>nomatch e)).out (DT.bK N) λcs r cl i P R u G k rc j m=> ?_)
 have H:At fd.scope cl {scope:=fd.scope,locals:=s.heap.objs.size,globals:=fd.globals,cells:=cs,qual:=fd.qualname++".<locals>.",func:=some f,code:=fd.code,frame:=some s.heap.objs.size,builtins:=fd.builtins} (Wh.to ⟨W.F,W.ρ,s.heap.objs.size::W.φ,W.aq⟩ P R):=⟨rfl,T.kind,T.globals,T.builtins,rfl,rc⟩
 exact wpAny_bind ((Fu H (A.mono G) k).out (DT.bK u) λ_ s₃ _ Y V X t I c _ p d=>wpAny_pure (h _ cl _ Y V X s₃ (Ext.trans G I) c (T.scope▸H.to I) t (p.trans j) (d.trans m)))
theorem leave{F':Heap}{af:List Addr}{L:Addr}{z':ES}{s':Shared}{fl:Flow}{b:FL}{Q:U×ES->Prop}(X:Ext W.F W.ρ F' af)(V:SW C ⟨F',af,L::W.φ,W.aq⟩ z' s')(hf:RF F' af b fl)(g:C.gk s'.gens=C.gk s.gens)(o:s'.os=s.os)
 (q:(match z'.fs with| .frame _::rest=> .leaf (b,⟨rest,z'.os⟩)|_=> .fail:DT (FL×ES)).Holds λr=>(pg r.1 r.2).Holds Q):match fl with| .ret v=>Po C W s VR Q v s'| .next=>Po C W s VR Q .none s'|_=>False:=by
 obtain⟨fs,os⟩:=z'
 cases fs with
 |nil=>exact q.elim
 |cons fr rest=>cases fr with
  |frame es=>
   have Y:SW C (W.to F' af) ⟨rest,os⟩ s':=⟨V.base,Rel.wf (b:=L) V.rel⟩
   cases b with
   |next=>cases hf;exact⟨.none,⟨rest,os⟩,F',af,q,X,Y, .none,g,o⟩
   |ret a=>
    obtain⟨v,rfl,Z⟩:=hf
    exact⟨a,⟨rest,os⟩,F',af,q,X,Y,Z,g,o⟩
   |brk=>exact q.elim
   |cont=>exact q.elim
  |_=>exact q.elim
theorem yy(B:Base C S){f8:Scope->CL->IH}(hI:∀sc cl env,be C (A.deeper env) sc cl env (f8 sc cl))(hd:A.depth<900){f:Addr}{args:List U}{vals:List Value}(V:SW C W z s)(hr:az W.F W.ρ args vals){fi:FI}(hf:S.fn f=some fi){bs:List (Str×U)}(hb:gW fi args=some bs):
 Tp C (λQ=>codeAny (model C.prog C.w) A (.call (.ref f) ⟨vals,[]⟩) (λr s'=>match r with| .ok (.ret v)=>Q v s'|_=>False) s) s W VR (bd (eP [] (bd (gl fi.scope.names []) λcl=>bd (storeAll fi.scope cl bs) λ_=>aB (f8 fi.scope cl).St fi.body)) pg z):=by
 obtain⟨o,fd,its,D,T⟩:=B.fns.fn f fi hf W.F W.ρ V.base
 intro Q Y
 refine codeAny_call_function (Nat.lt_of_lt_of_le hd (by decide)) (V.rel.keep _ _ T.at_) T.data T.xq T.gen T.body (T.code.keeps V.rel.keep) (yx T V hr hb (DT.bK (DT.bK Y)) λL cl env R q y s₃ Z X J K N G=>
  ⟨X.base.nolimit.keeps X.rel.keep,codeAny_func ((mx (hI _ cl env) X J).out K λfl u b j g m H I E M O P=> ?_)⟩)
 have k:=leave (W:=W) (Z.trans I) E M (O.trans N) (P.trans G) H
 cases fl<;>first|exact k|exact k.elim
theorem Base.ok(B:Base C S)(U:ba C n call)(hA:A.handled=none)(hd:A.depth+(n+1)<=900)(V:A.units+8*(n+1)<=9000)(env:Env):Ok C (A.deeper env) S call n:=
 ⟨B.tok,B.attr,B.ip,B.callee,U,⟨hA,by show A.depth+1+n<=900;lia,by show A.units+3+8*n<=9000;lia⟩⟩
theorem Fv{a:U}{m:EM U}{Q:U×ES->Prop}(h:(vN a m z).Holds Q):a= .none/\(m z).Holds Q:=by
 cases a<;>first|exact⟨rfl,h⟩|exact h.elim
theorem ja(B:Base C S)(Z:ba C n call):ba C (n+1) (aL S call N fuel):=by
 intro A hA hd H f args vals W z s U hr
 refine mN (λ_=>bI Tp.fail λg I Q V=> ?_) λfi hf=>bI Tp.fail λbs hb=>yy B (λsc cl env=>qM (B.ok Z hA hd H env) fuel sc cl env) (by lia) U hr hf hb
 have V:(bd (call g (.obj (z.os.length+1)::args)) (λr=>vN r (ak (.obj (z.os.length+1)))) ⟨z.fs,(z.os++[.dict []])++[.inst f z.os.length]⟩).Holds Q:=by
  have e:(z.os++[AO.dict []]).length=z.os.length+1:=List.length_append
  exact e▸V
 obtain⟨m1,m2,m3⟩:=B.fns.cls f g I
 have Y:=U.here.K
 have J:=U.alloc (o:= .dict []) (c:=dictOf [] 0) rfl ⟨[],0,rfl, .nil, .nil⟩ (s':={s with heap:=s.heap.push (dictOf [] 0)}) rfl
 have hl:=lF U
 have L:=J.alloc (o:= .inst f z.os.length) (c:=instObj f s.heap.objs.size) rfl ⟨s.heap.objs.size,(Ext.push W.F _ _).get hl,rfl⟩ (s':={s with heap:=(s.heap.push (dictOf [] 0)).push (instObj f s.heap.objs.size)}) rfl
 have hx:=lF J
 rw[show(z.os++[AO.dict []]).length=z.os.length+1 from List.length_append]at hx
 rw[show({s with heap:=s.heap.push (dictOf [] 0)}:Shared).heap.objs.size=s.heap.objs.size+1 from Heap.size_push _ _]at L hx
 obtain⟨G,O,d,t,os⟩:=s
 refine make_core (makes_of Y m1) (looks_findIn Y m2) (λself=>bind_fn Y self m3) (.inl rfl) ?_
 have hw:=Fs (a:=f) (rest:=vals) (kw:=[])
 have E:=(Ext.push W.F W.ρ G.objs.size).trans (Ext.push W.F _ (G.objs.size+1))
 have key:=Z (A.under (.builtin "type.__call__" ⟨.ref f::vals,[]⟩)) hA (by show A.depth+_+n<=900;rw[hw.1];lia) (by show A.units+_+8*n<=9000;rw[hw.2];lia) g _ _ _ _ _ L (.cons (.obj hx) (hr.mono E)) _ (DT.bK V)
 refine codeAny_mono key λr s' q=> ?_
 cases r with
 |error e=>exact q.elim
 |ok fl=>
  cases fl with
  |ret v=>
   obtain⟨b,z',F',af,q,X,D,M,g',o'⟩:=q
   obtain⟨rfl,q⟩:=Fv q
   cases M
   exact⟨rfl, .obj (z.os.length+1),z',F',af,q,E.trans X,D, .obj (X.get hx),g',o'⟩
  |_=>exact q.elim
theorem og(B:Base C S)(m:Nat):ba C m (rQ S N fuel m):=by
 induction m with
 |zero=>exactλ_ _ _ _ _ _ _ _ _ _ _ _=>Tp.fail
 |succ m ih=>exact ja B ih
end
noncomputable def fa{α:Type}(n:Nat):List (Nat×α)->Option α
 |[]=>none
 |(x,a)::r=>match Nat.beq n x with
  |true=>some a
  |false=>fa n r
theorem mL{α:Type}{n:Nat}{a:α}{l:List (Nat×α)}(h:fa n l=some a):(n,a)∈l:=by
 induction l with
 |nil=>cases h
 |cons p r ih=>
  obtain⟨x,b⟩:=p
  have h:(match Nat.beq n x with|true=>some b|false=>fa n r)=some a:=h
  cases q:Nat.beq n x with
  |true=>rw[q]at h;cases h;rw[Nat.eq_of_beq_eq_true q];exact .head _
  |false=>rw[q]at h;exact .tail _ (ih h)
noncomputable def si:Value->Option U
 | .none=>some .none
 | .bool b=>some (.bool b)
 | .int i _=>some (.int i)
 | .str x _=>some (.str x)
 |_=>none
noncomputable def rW:List Value->Option (List U)
 |[]=>some []
 |v::r=>(si v).bind λa=>(rW r).map (a::·)
theorem AN{F:Heap}{ρ:List Addr}{v:Value}{a:U}(h:si v=some a):VR F ρ a v:=fF (P:=λa=>VR F ρ a v) (by cases v<;>first|exact trivial|constructor) h
theorem cW{α β:Type}{o:Option α}{f:α->Option β}{b:β}(h:o.bind f=some b):∃a,o=some a/\f a=some b:=Option.bind_eq_some_iff.mp h
theorem z6{F:Heap}{ρ:List Addr}{vs:List Value}:∀{as:List U},rW vs=some as->az F ρ as vs:=by
 induction vs with
 |nil=>intro as h;cases h;exact .nil
 |cons v r ih=>
  intro as h
  obtain⟨a,V,h⟩:=cW (o:=si v) h
  obtain⟨s,h2,rfl⟩:=Option.map_eq_some_iff.mp h
  exact .cons (AN V) (ih h2)
noncomputable def DB:Data->Option FuncData
 | .func f=>some f
 |_=>none
theorem M1{d:Data}{f:FuncData}(h:DB d=some f):d= .func f:=fF (P:=λf=>d= .func f) (by cases d<;>first|exact trivial|exact rfl) h
noncomputable def xr:Data->Option (Array Value×Nat)
 | .seq a n=>some (a,n)
 |_=>none
theorem Bf{d:Data}{p:Array Value×Nat}(h:xr d=some p):d= .seq p.1 p.2:=fF (P:=λp=>d= .seq p.1 p.2) (by cases d<;>first|exact trivial|exact rfl) h
noncomputable def DD:Data->Option (Array Value)
 | .fields a=>some a
 |_=>none
theorem M2{d:Data}{p:Array Value}(h:DD d=some p):d= .fields p:=fF (P:=λp=>d= .fields p) (by cases d<;>first|exact trivial|exact rfl) h
noncomputable def nB:Value->Option Addr
 | .ref a=>some a
 |_=>none
theorem u0{d:Value}{p:Addr}(h:nB d=some p):d= .ref p:=fF (P:=λp=>d= .ref p) (by cases d<;>first|exact trivial|exact rfl) h
noncomputable def xt:Value->Bool
 | .none=>true
 |_=>false
theorem M3{d:Value}(h:xt d=true):d= .none:=l8 (by cases d<;>first|exact trivial|exact rfl) h
noncomputable def pq:Value->Option (Str×Tok)
 | .str x t=>some (x,t)
 |_=>none
theorem AP{d:Value}{p:Str×Tok}(h:pq d=some p):d= .str p.1 p.2:=fF (P:=λp=>d= .str p.1 p.2) (by cases d<;>first|exact trivial|exact rfl) h
noncomputable def DE:Value->Option String
 | .type a=>some a
 |_=>none
theorem M4{d:Value}{p:String}(h:DE d=some p):d= .type p:=fF (P:=λp=>d= .type p) (by cases d<;>first|exact trivial|exact rfl) h
noncomputable def DF:FuncBody->Option (List Stmt)
 | .stmts b=>some b
 |_=>none
theorem M5{d:FuncBody}{p:List Stmt}(h:DF d=some p):d= .stmts p:=fF (P:=λp=>d= .stmts p) (by cases d<;>first|exact trivial|exact rfl) h
theorem bt{α:Type}{c:Bool}{a b:α}(h:(bif c then some a else none)=some b):c=true/\a=b:=by
 cases c
 ·cases h
 ·exact⟨rfl,Option.some.inj h⟩
noncomputable def Pl(K:Frag)(v:Value):Option (List U×Option (Array Value)):=(nB v).bind λt=>(K.lookup t).bind λo=>(xr o.data).bind λp=>(rW p.1.toList).map λas=>(as,some p.1)
noncomputable def vo(K:Frag)(v:Value):Option (List U×Option (Array Value)):=bif xt v then some ([],none)else Pl K v
theorem KN{K:Frag}{F:Heap}{ρ:List Addr}(V:K.In F){v:Value}{ds:List U}{D:Option (Array Value)}(h:vo K v=some (ds,D)):(∀(M:Model) (A:Around) (E:Value->Shared->Prop) (s:Shared) (Q:Option (Array Value)->Shared->Prop),(∀b o,F.get? b=some o->s.heap.get? b=some o)->Q D s->wpAny M A (seqItems? v) Q E s)/\az F ρ ds ((D.getD #[]).toList):=by
 unfold vo at h
 cases q:xt v with
 |true=>
  rw[q]at h;cases h
  rw[M3 q]
  exact⟨λM A E s Q _ q=>wpAny_pure q, .nil⟩
 |false=>
  rw[q]at h
  obtain⟨t,ht,h⟩:=cW (o:=nB v) h
  obtain⟨⟨c,d,x,sl⟩,ho,h⟩:=cW h
  obtain⟨p,hp,h⟩:=cW h
  obtain⟨as,ha,h⟩:=Option.map_eq_some_iff.mp h
  cases h
  have hp:x=_:=Bf hp
  rw[hp]at ho
  rw[u0 ht]
  exact⟨λM A E s Q k q=>wpAny_seqItems (k _ _ (V _ _ ho)) rfl q,z6 ha⟩
noncomputable def codeOk(K:Frag)(fd:FuncData):Option Unit:=(nB fd.code).bind λc=>(K.lookup c).bind λo=>(DD o.data).bind λvs=>(vs[1]?).bind λv=>(pq v).bind λp=>bif sEq p.1 fd.qualname then some ()else none
theorem code_at{K:Frag}{F:Heap}(U:K.In F){fd:FuncData}(h:codeOk K fd=some ()):F.CodeRec fd.code fd.qualname:=by
 obtain⟨c,V,h⟩:=cW h
 obtain⟨⟨_,_,_,_⟩,ho,h⟩:=cW h
 obtain⟨vs,hv,h⟩:=cW h
 cases M2 hv
 obtain⟨v,W,h⟩:=cW (o:=vs[1]?) h
 obtain⟨p,hp,h⟩:=cW (o:=pq v) h
 exact⟨c,_,vs,p.2,u0 V,U _ _ ho,rfl,by rw[W,AP hp,sEq_iff.mp (bt h).1]⟩
noncomputable def CP(g:Bool)(fd:FuncData):Bool:=(Nat.beq fd.globals mainGlobals&&Nat.beq fd.builtins builtinsNs&&fd.closure.isEmpty&& !fd.scope.isCoroutine&&(fd.scope.isGenerator==g)&&(fd.scope.kind== .function))&&
 (fd.params.posonlyargs.isEmpty&&fd.params.kwonlyargs.isEmpty&&fd.params.vararg.isNone&&fd.params.kwarg.isNone&&decide ((fd.params.args.map (·.arg)).Nodup))
noncomputable def vT(K:Frag)(g:Bool)(f:Addr):Option FI:=(K.lookup f).bind λo=>(DB o.data).bind λfd=>(DF fd.body).bind λb=>(vo K fd.defaults).bind λds=>(codeOk K fd).bind λ_=>bif CP g fd then some ⟨fd.params.args.map (·.arg),ds.1,fd.scope,b⟩else none
theorem z9{K:Frag}{F:Heap}{ρ:List Addr}(U:K.In F){g:Bool}{f:Addr}{fi:FI}(h:vT K g f=some fi):∃o fd its D,FnAt g F ρ f fi o fd its D:=by
 obtain⟨o,ho,h⟩:=cW h
 obtain⟨fd,hf,h⟩:=cW h
 obtain⟨b,hb,h⟩:=cW h
 obtain⟨ds,hd,h⟩:=cW h
 obtain⟨_,V,h⟩:=cW h
 obtain⟨hk,rfl⟩:=bt h
 clear h
 have W:=KN (ρ:=ρ) U (ds:=ds.1) (D:=ds.2) hd
 have V:=code_at U V
 unfold CP at hk
 simp only[Bool.and_eq_true,Bool.not_eq_true',decide_eq_true_eq,beq_iff_eq,List.isEmpty_iff,Option.isNone_iff_eq_none]at hk
 obtain⟨⟨⟨⟨⟨⟨c1,c2⟩,c3⟩,c4⟩,X⟩,Y⟩,⟨⟨⟨p1,p2⟩,p3⟩,p4⟩,p5⟩:=hk
 exact⟨o,fd,_,ds.2,⟨U _ _ ho,M1 hf,rfl,M5 hb,Nat.eq_of_beq_eq_true c1,Nat.eq_of_beq_eq_true c2,c3,c4,X,Y,V,p1,p2,p3,p4,rfl,p5,W.1,rfl,W.2⟩⟩
noncomputable def fnOf(K:Frag)(f:Addr):Option FI:=vT K false f
theorem KP{K:Frag}{F:Heap}{ρ:List Addr}(U:K.In F){f:Addr}{fi:FI}(h:fnOf K f=some fi):∃o fd its D,FnAt false F ρ f fi o fd its D:=z9 U h
noncomputable def s6:Data->Option (Array DictEntry)
 | .dict es _=>some es
 |_=>none
noncomputable def j4(K:Frag)(x:Str):Option Value:=(K.lookup mainGlobals).bind λo=>(s6 o.data).bind λes=>nsFind es x
noncomputable def vU:List Value->Option (List PyData)
 |[]=>some []
 |v::r=>(pq v).bind λp=>(vU r).map (.str p.1::·)
theorem Fw{h:Heap}{vs:List Value}:∀{ds:List PyData},vU vs=some ds->∃as,ReadsAll h vs ds as:=by
 induction vs with
 |nil=>intro ds e;cases e;exact⟨_, .nil⟩
 |cons v r ih=>
  intro ds e
  obtain⟨p,hp,e⟩:=cW (o:=pq v) e
  obtain⟨es,he,rfl⟩:=Option.map_eq_some_iff.mp e
  obtain⟨as,hr⟩:=ih he
  rw[AP hp]
  exact⟨_, .cons (.str _ _) hr⟩
noncomputable def CQ:Data->Bool
 | .func _=>true
 | .cls _=>true
 | .dict _ _=>true
 |_=>false
noncomputable def xu(o:Obj):Option (String×Array Value×Nat):=(DE o.cls).bind λt=>(xr o.data).bind λp=>bif o.dict.isNone&&o.slots.isEmpty then some (t,p)else none
theorem M6{o:Obj}{p:String×Array Value×Nat}(h:xu o=some p):o=⟨.type p.1,none, .seq p.2.1 p.2.2,#[]⟩:=by
 obtain⟨t,ht,h⟩:=cW h
 obtain⟨q,U,h⟩:=cW h
 obtain⟨hb,rfl⟩:=bt h
 obtain⟨c,d,x,sl⟩:=o
 rw[Bool.and_eq_true]at hb
 have V:c=_:=M4 ht
 have h2:x=_:=Bf U
 have h3:d=none:=Option.isNone_iff_eq_none.mp hb.1
 have h4:sl=#[]:=Array.isEmpty_iff.mp hb.2
 rw[V,h2,h3,h4]
noncomputable def Bg(K:Frag)(a:Addr):Option U:=(K.lookup a).bind λo=>bif CQ o.data then some (.top a)else(xu o).bind λp=>bif decide (p.1="tuple")then(rW p.2.1.toList).map .tup else bif decide (p.1="list")then(vU p.2.1.toList).map λds=> .dat (.list ds)else none
noncomputable def u1(K:Frag)(x:Str):Option U:=(j4 K x).bind λv=>(nB v).elim (si v) (Bg K)
theorem Gq{K:Frag}{F:Heap}{ρ:List Addr}(W:K.In F){ad:Addr}{a:U}(h:Bg K ad=some a):VR F ρ a (.ref ad):=by
 obtain⟨o,ho,h⟩:=cW h
 cases q:CQ o.data with
 |true=>rw[q]at h;cases h;exact .top
 |false=>
  rw[q]at h
  obtain⟨p,hp,h⟩:=cW (o:=xu o) h
  have hl:=W _ _ ho
  rw[M6 hp]at hl
  cases V:decide (p.1="tuple")with
  |true=>
   rw[V]at h
   rw[of_decide_eq_true V]at hl
   obtain⟨as,hs,rfl⟩:=Option.map_eq_some_iff.mp h
   exact .tup hl (z6 hs)
  |false=>
   rw[V]at h
   cases q2:decide (p.1="list")with
   |true=>
    rw[q2]at h
    rw[of_decide_eq_true q2]at hl
    obtain⟨ds,hs,rfl⟩:=Option.map_eq_some_iff.mp h
    obtain⟨as,r⟩:=Fw (h:=F) hs
    exact .dat (.list hl rfl rfl r)
   |false=>rw[q2]at h;cases h
theorem FT{K:Frag}{F:Heap}{ρ:List Addr}(V:K.In F){x:Str}{a:U}(h:u1 K x=some a):∃v,j4 K x=some v/\VR F ρ a v:=by
 obtain⟨v,hv,h⟩:=cW h
 refine⟨v,hv, ?_⟩
 cases q:nB v with
 |none=>rw[q]at h;exact AN h
 |some ad=>rw[q]at h;rw[u0 q];exact Gq V h
noncomputable def wm:Value->Option (Int×Tok)
 | .int i t=>some (i,t)
 |_=>none
theorem KQ{d:Value}{p:Int×Tok}(h:wm d=some p):d= .int p.1 p.2:=fF (P:=λp=>d= .int p.1 p.2) (by cases d<;>first|exact trivial|exact rfl) h
theorem b2{a b:Bool}(h:(a&&b)=true):a=true/\b=true:=Bool.and_eq_true_iff.mp h
theorem bn{a:Bool}(h:(!a)=true):a=false:=(Bool.not_eq_true' _).mp h
noncomputable def xv(K:Frag)(c:Addr)(n:Str)(i:Int):Bool:=Option.casesOn ((findIn K (.ref c) n).bind λo=>o.bind wm) false λp=>decide (i=p.1)&&(specialIn K (.int p.1 p.2) "__get__"==some none&& !copiedNames.contains n)
noncomputable def DG(K:Frag)(c:Addr)(n:Str)(a:U):Bool:=U.casesOn a false (λ_=>false) (xv K c n) (λ_=>false) (λ_=>false) (λ_=>false) (λ_=>false) (λ_=>false) (λ_=>false) (λ_=>false) (λ_ _=>false) (λ_ _=>false) false
theorem M7{K:Frag}{c:Addr}{n:Str}{i:Int}(h:xv K c n i=true):∃t,findIn K (.ref c) n=some (some (.int i t))/\specialIn K (.int i t) "__get__"=some none/\copiedNames.contains n=false:=by
 unfold xv at h
 cases q:(findIn K (.ref c) n).bind λo=>o.bind wm with
 |none=>rw[q]at h;cases h
 |some p=>
  rw[q]at h
  obtain⟨o,V,h2⟩:=cW q
  obtain⟨v,h3,h4⟩:=cW h2
  rw[V,h3,KQ h4]
  have e:=of_decide_eq_true (b2 h).1
  rw[e]
  exact⟨p.2,rfl,eq_of_beq (b2 (b2 h).2).1,bn (b2 (b2 h).2).2⟩
theorem M8{K:Frag}{c:Addr}{n:Str}{a:U}(h:DG K c n a=true):∃i t,a= .int i/\findIn K (.ref c) n=some (some (.int i t))/\specialIn K (.int i t) "__get__"=some none/\copiedNames.contains n=false:=
 l8 (by cases a<;>first|exact trivial|exact oW λh=>(M7 h).elim λt h=>⟨_,t,rfl,h⟩) h
noncomputable def CR(K:Frag)(c:Addr)(n:Str):AK->Bool
 | .aU f=>findIn K (.ref c) n==some (some (.ref f))&&typeIn K (.ref f)==some (.type "function")&&specialIn K (.ref f) "__get__"==some (some (.builtin "function.__get__"))&&takesIn K (.ref f)==some false&& !copiedNames.contains n
 | .val a=>DG K c n a
 | .absent=>findIn K (.ref c) n==some none
 |_=>false
noncomputable def Bh(K:Frag)(c:Addr):Bool:=findIn K (.ref c) "__getattribute__"==some (some (.builtin "object.__getattribute__"))&&findIn K (.ref c) "__getattr__"==some none&&findIn K (.ref c) "__setattr__"==some (some (.builtin "object.__setattr__"))&&hasDictIn K c&&plainOver K c
noncomputable def br(p:Arguments×List Stmt×Scope)(ds:List U):FI:=⟨p.1.args.map (·.arg),ds,p.2.2,p.2.1⟩
noncomputable abbrev e1(n:Str)(k:AK):Str×AK:=(n,k)
noncomputable abbrev e2(n:Nat)(k:FI):Nat×FI:=(n,k)
noncomputable abbrev e3(n:Str)(k:U):Str×U:=(n,k)
noncomputable def jW:List (Nat×FI):=[
 e2 42 (br (di 7) []),
 e2 63 (br (aM 13 0) []),
 e2 70 (br (aM 13 1) []),
 e2 84 (br (di 14) []),
 e2 98 (br (aM 15 1) []),
 e2 105 (br (aM 15 2) []),
 e2 112 (br (aM 15 3) []),
 e2 119 (br (aM 15 4) []),
 e2 126 (br (aM 15 5) []),
 e2 133 (br (aM 15 6) []),
 e2 141 (br (aM 15 7) [.none]),
 e2 148 (br (aM 15 8) []),
 e2 156 (br (aM 15 9) [.bool false]),
 e2 163 (br (aM 15 10) []),
 e2 261 (br (aM 21 0) [.none]),
 e2 297 (br (aM 21 5) []),
 e2 304 (br (aM 21 6) []),
 e2 339 (br (aM 21 11) []),
 e2 416 (br (aM 21 22) []),
 e2 423 (br (aM 21 23) []),
 e2 430 (br (aM 21 24) []),
 e2 437 (br (aM 21 25) []),
 e2 444 (br (aM 21 26) []),
 e2 451 (br (aM 21 27) []),
 e2 458 (br (aM 21 28) []),
 e2 465 (br (aM 21 29) []),
 e2 472 (br (aM 21 30) []),
 e2 479 (br (aM 21 31) []),
 e2 486 (br (aM 21 32) []),
 e2 493 (br (aM 21 33) []),
 e2 500 (br (aM 21 34) []),
 e2 507 (br (aM 21 35) []),
 e2 514 (br (aM 21 36) []),
 e2 521 (br (aM 21 37) []),
 e2 528 (br (aM 21 38) []),
 e2 535 (br (aM 21 39) []),
 e2 542 (br (aM 21 40) []),
 e2 591 (br (aM 21 47) []),
 e2 773 (br (di 23) []),
 e2 782 (br (di 26) []),
 e2 787 (br (di 27) []),
 e2 794 (br (di 28) []),
 e2 801 (br (di 29) []),
 e2 808 (br (di 30) []),
 e2 813 (br (di 31) []),
 e2 820 (br (di 32) []),
 e2 825 (br (di 33) [])]
noncomputable def mP:List (Nat×Addr):=[(73,63),(166,98),(762,261)]
noncomputable def KR:List (Str×AK):=[e1 "text" AK.absent,e1 "place" AK.absent,e1 "read" (AK.aU 70)]
noncomputable def M9:List (Str×AK):=[e1 "chunk" AK.absent,e1 "chunkSize" AK.absent,e1 "chunkOffset" AK.absent,e1 "errors" AK.absent,e1 "prevNumLines" AK.absent,e1 "prevNumCols" AK.absent,e1 "_bufferedCharacter" AK.absent,e1 "dataStream" AK.absent,e1 "reportCharacterErrors" AK.absent,e1 "newLines" AK.absent,e1 "char" (AK.aU 133),e1 "charsUntil" (AK.aU 156),e1 "unget" (AK.aU 163),e1 "readChunk" (AK.aU 141),e1 "_position" (AK.aU 119),e1 "position" (AK.aU 126),e1 "reset" (AK.aU 105),e1 "openStream" (AK.aU 112),e1 "characterErrorsUCS4" (AK.aU 148),e1 "_defaultChunkSize" (AK.val (.int 10240))]
noncomputable def M_:List (Str×AK):=[e1 "__iter__" (AK.aU 268),e1 "stream" AK.absent,e1 "state" AK.absent,e1 "tokenQueue" AK.absent,e1 "currentToken" AK.absent,e1 "temporaryBuffer" AK.absent,e1 "parser" AK.absent,e1 "escapeFlag" AK.absent,e1 "lastFourChars" AK.absent,e1 "escape" AK.absent,e1 "emitCurrentToken" (AK.aU 297),e1 "dataState" (AK.aU 304),e1 "scriptDataState" (AK.aU 339),e1 "scriptDataLessThanSignState" (AK.aU 416),e1 "scriptDataEndTagOpenState" (AK.aU 423),e1 "scriptDataEndTagNameState" (AK.aU 430),e1 "scriptDataEscapeStartState" (AK.aU 437),e1 "scriptDataEscapeStartDashState" (AK.aU 444),e1 "scriptDataEscapedState" (AK.aU 451),e1 "scriptDataEscapedDashState" (AK.aU 458),e1 "scriptDataEscapedDashDashState" (AK.aU 465),e1 "scriptDataEscapedLessThanSignState" (AK.aU 472),e1 "scriptDataEscapedEndTagOpenState" (AK.aU 479),e1 "scriptDataEscapedEndTagNameState" (AK.aU 486),e1 "scriptDataDoubleEscapeStartState" (AK.aU 493),e1 "scriptDataDoubleEscapedState" (AK.aU 500),e1 "scriptDataDoubleEscapedDashState" (AK.aU 507),e1 "scriptDataDoubleEscapedDashDashState" (AK.aU 514),e1 "scriptDataDoubleEscapedLessThanSignState" (AK.aU 521),e1 "scriptDataDoubleEscapeEndState" (AK.aU 528),e1 "beforeAttributeNameState" (AK.aU 535),e1 "attributeNameState" (AK.aU 542),e1 "selfClosingStartTagState" (AK.aU 591)]
noncomputable def oH:List (Nat×List (Str×AK)):=[(166,M9),(762,M_),(73,KR)]
noncomputable def oI:List (Str×U):=[
 e3 "EOF" (.none),
 e3 "tokenTypes" (.top 48),
 e3 "spaceCharacters" (.tup [U.str "\t",U.str "\n",U.str "\x0c",U.str " ",U.str "\r"]),
 e3 "asciiLetters" (.tup [U.str "a",U.str "b",U.str "c",U.str "d",U.str "e",U.str "f",U.str "g",U.str "h",U.str "i",U.str "j",U.str "k",U.str "l",U.str "m",U.str "n",U.str "o",U.str "p",U.str "q",U.str "r",U.str "s",U.str "t",U.str "u",U.str "v",U.str "w",U.str "x",U.str "y",U.str "z",U.str "A",U.str "B",U.str "C",U.str "D",U.str "E",U.str "F",U.str "G",U.str "H",U.str "I",U.str "J",U.str "K",U.str "L",U.str "M",U.str "N",U.str "O",U.str "P",U.str "Q",U.str "R",U.str "S",U.str "T",U.str "U",U.str "V",U.str "W",U.str "X",U.str "Y",U.str "Z"]),
 e3 "tagTokenTypes" (.tup [.int 3, .int 4, .int 5]),
 e3 "asciiLower" (.top 42),
 e3 "Text" (.top 73),
 e3 "_is_invalid" (.top 84),
 e3 "HTMLUnicodeInputStream" (.top 166),
 e3 "HTMLTokenizer" (.top 762),
 e3 "_law_PIECES" (.dat (.list [PyData.str "<!--",PyData.str "-->",PyData.str "<script>",PyData.str "</script>",PyData.str "</SCRIPT/>",PyData.str "</Script >",PyData.str "</script\nB>",PyData.str "</scrip",PyData.str "</",PyData.str "x>y",PyData.str "<",PyData.str "<!-",PyData.str "script>",PyData.str "--",PyData.str "\x00",PyData.str "a b\n",PyData.str "<SCRIPT\n",PyData.str "</scripts>",PyData.str "->",PyData.str "<script/"])),
 e3 "_law_HEADS" (.top 773),
 e3 "_law_STOPS" (.tup [U.str " ",U.str "\t",U.str "\n",U.str "/",U.str ">"]),
 e3 "_law_CUTS" (.top 782),
 e3 "_law_small" (.top 787),
 e3 "_law_say" (.top 794),
 e3 "_law_body" (.top 801),
 e3 "_law_turns" (.top 808),
 e3 "_law_due" (.top 813),
 e3 "_law_run" (.top 820)]
noncomputable def ir:List (Str×(U×Value)):=[("len", .bi .len, .builtin "len"),("ord", .bi .ord, .builtin "ord"),("chr", .bi .chr, .builtin "chr"),("sum", .bi .sum, .builtin "sum"),("range", .ty .range, .type "range"),("enumerate", .ty .pQ, .type "enumerate")]
noncomputable def BV:List (Str×U):=[("Doctype", .int 0),("Characters", .int 1),("SpaceCharacters", .int 2),("StartTag", .int 3),("EndTag", .int 4),("EmptyTag", .int 5),("Comment", .int 6),("ParseError", .int 7)]
noncomputable def S1:ST where
 fn f:=fa f jW
 isFn f:=(fa f jW).isSome
 m8 c:=(fa c mP).isSome
 cls c:=fa c mP
 glob x:=match lk x oI with
  |some a=>some a
  |none=>(lk x ir).map (·.1)
 attr c n:=match fa c oH with
  |some t=>(match lk n t with
   |some k=>k
   |none=> .bad)
  |none=> .bad
 ip a:=match Nat.beq a 48 with
  |true=>some BV
  |false=>none
theorem H9(P:Params):jW.map (λp=>fnOf (KL P) p.1)=jW.map (λp=>some p.2):=by kernel_rfl
theorem Gr(P:Params):(mP.all λp=>makesIn (KL P) p.1&&findIn (KL P) (.ref p.1) "__init__"==some (some (.ref p.2))&&typeIn (KL P) (.ref p.2)==some (.type "function"))=true:=by kernel_rfl
theorem FU(P:Params):(oH.all λp=>Bh (KL P) p.1&&p.2.all λq=>CR (KL P) p.1 q.1 q.2)=true:=by kernel_rfl
theorem FV(P:Params):oI.map (λp=>u1 (KL P) p.1)=oI.map (λp=>some p.2):=by kernel_rfl
theorem FW(P:Params):ir.map (λp=>j4 (KL P) p.1)=ir.map (λ_=>none):=by kernel_rfl
theorem zr(P:Params):(jW.all λp=>fnIn (KL P) p.1&&keepIn (KL P) (.ref p.1))=true:=by kernel_rfl
theorem FX(P:Params):(mP.all λp=>keepIn (KL P) (.ref p.1))=true:=by kernel_rfl
theorem M'(P:Params):(KL P).lookup 48=some (dictOf [⟨PyData.keyHash P "Doctype", .str "Doctype" 532, .int 0 533⟩,⟨PyData.keyHash P "Characters", .str "Characters" 534, .int 1 535⟩,⟨PyData.keyHash P "SpaceCharacters", .str "SpaceCharacters" 536, .int 2 537⟩,⟨PyData.keyHash P "StartTag", .str "StartTag" 538, .int 3 539⟩,⟨PyData.keyHash P "EndTag", .str "EndTag" 540, .int 4 541⟩,⟨PyData.keyHash P "EmptyTag", .str "EmptyTag" 542, .int 5 543⟩,⟨PyData.keyHash P "Comment", .str "Comment" 544, .int 6 545⟩,⟨PyData.keyHash P "ParseError", .str "ParseError" 546, .int 7 547⟩] 8):=by kernel_rfl
theorem fQ{α β:Type}{f g:α->β}{l:List α}(e:l.map f=l.map g):∀x∈l,f x=g x:=List.map_inj_left.mp e
theorem Pm{c:Nat}{n:Str}{k:AK}(h:S1.attr c n=k)(hk:k≠ .bad):∃t,(c,t)∈oH/\(n,k)∈t:=by
 have h:(match fa c oH with
  |some t=>(match lk n t with
   |some k=>k
   |none=> .bad)
  |none=> .bad)=k:=h
 cases q:fa c oH with
 |none=>rw[q]at h;exact absurd h.symm hk
 |some t=>
  rw[q]at h
  have h:(match lk n t with
   |some k=>k
   |none=> .bad)=k:=h
  cases q2:lk n t with
  |none=>rw[q2]at h;exact absurd h.symm hk
  |some U=>
   rw[q2]at h
   exact⟨t,mL q,h▸oO q2⟩
theorem Pn{F:Heap}{ρ:List Addr}:∀p∈ir,VR F ρ p.2.1 p.2.2:=
 List.forall_mem_cons.mpr ⟨VR.bi (i:= .len),List.forall_mem_cons.mpr ⟨VR.bi (i:= .ord),List.forall_mem_cons.mpr ⟨VR.bi (i:= .chr),List.forall_mem_cons.mpr ⟨VR.bi (i:= .sum),List.forall_mem_cons.mpr ⟨VR.ty (n:= .range),List.forall_mem_cons.mpr ⟨VR.ty (n:= .pQ),λ_ h=>(List.not_mem_nil h).elim⟩⟩⟩⟩⟩⟩
theorem BW{C:Cx}(U:C.K=KL C.w.params)(X:C.mg=j4 C.K)(Y:∀p∈ir,C.mb p.1=some p.2.2):Base C S1:=by
 have attr:∀{c n k},S1.attr c n=k->k≠ .bad->Bh C.K c=true/\CR C.K c n k=true:=by
  intro c n k h hk
  obtain⟨t,V,h2⟩:=Pm h hk
  have:=List.all_eq_true.mp (FU C.w.params) _ V
  rw[Bool.and_eq_true]at this
  rw[U]
  exact⟨this.1,List.all_eq_true.mp this.2 _ h2⟩
 refine⟨⟨λid av h=> ?_⟩,⟨λc n h=> ?_,λc n f h=> ?_,λc n a h=> ?_,λc n h=> ?_⟩,⟨λa es h F ρ B=> ?_⟩,⟨λa h=> ?_,λa h=> ?_⟩,⟨λf fi h F ρ B=> ?_,λc g h=> ?_⟩⟩
 ·have e:S1.glob id=match lk id oI with
   |some a=>some a
   |none=>(lk id ir).map (·.1):=rfl
  rw[e]at h
  cases q:lk id oI with
  |some a=>
   rw[q]at h;cases h
   have:=fQ (FV C.w.params) _ (oO q)
   rw[<-U]at this
   have hv:u1 C.K id=some av:=this
   obtain⟨v,hm,_⟩:=cW hv
   refine⟨v, .inl (by rw[X];exact hm),λF ρ B=> ?_⟩
   obtain⟨Z,V,h2⟩:=FT (ρ:=ρ) B.K hv
   rw[hm]at V;cases V
   exact h2
  |none=>
   rw[q]at h
   cases q2:lk id ir with
   |none=>rw[q2]at h;cases h
   |some p=>
    rw[q2]at h;cases h
    have W:=oO q2
    have hn:=fQ (FW C.w.params) _ W
    rw[<-U]at hn
    exact⟨p.2, .inr ⟨by rw[X];exact hn,Y _ W⟩,λF ρ B=>Pn _ W⟩
 ·have h:=(attr rfl h).1
  exact⟨eq_of_beq (b2 (b2 (b2 (b2 h).1).1).1).1,eq_of_beq (b2 (b2 (b2 (b2 h).1).1).1).2,eq_of_beq (b2 (b2 (b2 h).1).1).2,(b2 (b2 h).1).2,(b2 h).2⟩
 ·have h:=(attr h nofun).2
  exact⟨eq_of_beq (b2 (b2 (b2 (b2 h).1).1).1).1,eq_of_beq (b2 (b2 (b2 (b2 h).1).1).1).2,eq_of_beq (b2 (b2 (b2 h).1).1).2,eq_of_beq (b2 (b2 h).1).2,bn (b2 h).2⟩
 ·obtain⟨i,t,rfl,V,h2,h3⟩:=M8 (attr h nofun).2
  exact⟨_,V,h2,rfl,h3,λF ρ B=> .int⟩
 ·exact eq_of_beq (attr h nofun).2
 ·have e:S1.ip a=match Nat.beq a 48 with
   |true=>some BV
   |false=>none:=rfl
  rw[e]at h
  cases q:Nat.beq a 48 with
  |false=>rw[q]at h;cases h
  |true=>
   rw[q]at h;cases h
   have:=Nat.eq_of_beq_eq_true q
   subst this
   have hl:=M' C.w.params
   rw[<-U]at hl
   exact q8 (B.K _ _ hl) (.cons .int (.cons .int (.cons .int (.cons .int (.cons .int (.cons .int (.cons .int (.cons .int .nil)))))))) (by decide)
 ·have e:S1.isFn a=(fa a jW).isSome:=rfl
  rw[e]at h
  obtain⟨fi,hf⟩:=Option.isSome_iff_exists.mp h
  have:=List.all_eq_true.mp (zr C.w.params) _ (mL hf)
  rw[Bool.and_eq_true]at this
  rw[U];exact this.1
 ·have e:(S1.isFn a||S1.m8 a)=((fa a jW).isSome||(fa a mP).isSome):=rfl
  rw[e,Bool.or_eq_true]at h
  rw[U]
  rcases h with h|h
  ·obtain⟨fi,hf⟩:=Option.isSome_iff_exists.mp h
   have:=List.all_eq_true.mp (zr C.w.params) _ (mL hf)
   rw[Bool.and_eq_true]at this
   exact this.2
  ·obtain⟨fi,hf⟩:=Option.isSome_iff_exists.mp h
   exact List.all_eq_true.mp (FX C.w.params) _ (mL hf)
 ·have h:fa f jW=some fi:=h
  have:=fQ (H9 C.w.params) _ (mL h)
  rw[<-U]at this
  exact KP B.K this
 ·have h:fa c mP=some g:=h
  have:=List.all_eq_true.mp (Gr C.w.params) _ (mL h)
  simp only[Bool.and_eq_true,beq_iff_eq]at this
  rw[U]
  exact⟨this.1.1,this.1.2,this.2⟩
noncomputable def DT.run{α:Type}:DT α->List Bool->Option (List Bool×α)
 | .leaf a,cs=>List.casesOn cs (some ([],a)) λ_ _=>none
 | .test b t f,cs=>List.casesOn cs none λc cs=>(cond c (t.run cs) (f.run cs)).map λr=>(b::r.1,r.2)
 | .fail,_=>none
theorem DT.aQ{α:Type}{t:DT α}:∀{cs bs:List Bool} {a:α},t.run cs=some (bs,a)->bs=cs->t.eval=some a:=by
 induction t with
 |leaf a=>intro cs bs x h _;cases cs with
  |nil=>cases h;rfl
  |cons=>cases h
 |fail=>intro cs bs x h _;cases h
 |test b t f U V=>intro cs bs x h e;cases cs with
  |nil=>cases h
  |cons c cs=>
   obtain⟨⟨W,x'⟩,q,h⟩:=Option.map_eq_some_iff.mp (show(cond c (t.run cs) (f.run cs)).map (λr=>(b::r.1,r.2))=some (bs,x)from h)
   cases h
   cases e
   cases b
   ·exact V q rfl
   ·exact U q rfl
theorem DT.aC{α β:Type}{k:α->DT β}{t:DT α}{a:α}:t.eval=some a->(t.bind k).eval=(k a).eval:=by
 induction t with
 |leaf a=>intro h;cases h;rfl
 |fail=>intro h;cases h
 |test b t f U V=>cases b with
  |true=>exact U
  |false=>exact V
theorem f9{α β:Type}{k:α->DT β}{t:DT α}{a:α}{r:Option β}(h2:(k a).eval=r)(V:t.eval=some a):(t.bind k).eval=r:=(DT.aC V).trans h2
theorem DT.yS{α:Type}{P:α->Prop}{t:DT α}:t.Holds P->∃a,t.eval=some a/\P a:=by
 induction t with
 |leaf a=>exactλh=>⟨a,rfl,h⟩
 |fail=>exactλh=>h.elim
 |test b t f U V=>cases b with
  |true=>exactλh=>U (h.1 rfl)
  |false=>exactλh=>V (h.2 rfl)
noncomputable def over(g:Addr)(sum:List U->EM U)(H:Addr->List U->EM U):Addr->List U->EM U:=λf args=>bo (Nat.beq f g) (sum args) (H f args)
noncomputable def fR:U->Bool
 | .none| .bool _| .int _| .str _| .bi _| .ty _| .top _| .dat _| .cL _ _=>true
 |_=>false
noncomputable def rX(h:Heap)(p:AO×Addr):Option (Addr×Obj):=cond p.1.live ((h.get? p.2).map λc=>(p.2,c)) none
noncomputable def fm(h:Heap)(os:List AO)(as:List Addr):List (Addr×Obj):=(os.zip as).filterMap (rX h)
theorem ux{h:Heap}{o:AO}{a:Addr}{p:Addr×Obj}(e:rX h (o,a)=some p):o.live=true/\a=p.1/\h.get? p.1=some p.2:=by
 unfold rX at e
 cases q:o.live with
 |false=>rw[q]at e;cases e
 |true=>
  rw[q]at e
  obtain⟨c,k,rfl⟩:=Option.map_eq_some_iff.mp e
  exact⟨rfl,rfl,k⟩
theorem kA{h:Heap}{p:Addr×Obj}{os:List AO}{as:List Addr}(hp:p∈fm h os as):∃(i:Nat) (o:AO),os[i]?=some o/\as[i]?=some p.1/\o.live=true/\h.get? p.1=some p.2:=by
 obtain⟨⟨o,a⟩,hm,e⟩:=List.mem_filterMap.mp hp
 obtain⟨i,hi⟩:=List.mem_iff_getElem?.mp hm
 obtain⟨V,h2⟩:=List.getElem?_zip_eq_some.mp hi
 obtain⟨h3,rfl,h4⟩:=ux e
 exact⟨i,o,V,h2,h3,h4⟩
theorem qN{h:Heap}{c:Obj}{o:AO}{a:Addr}{os:List AO}{as:List Addr}{i:Nat}(V:os[i]?=some o)(h2:as[i]?=some a)(h3:o.live=true)(h4:h.get? a=some c):(a,c)∈fm h os as:=
 List.mem_filterMap.mpr ⟨(o,a),List.mem_iff_getElem?.mpr ⟨i,List.getElem?_zip_eq_some.mpr ⟨V,h2⟩⟩,by unfold rX;rw[h3,h4];rfl⟩
theorem qG{h:Heap}{os:List AO}{as:List Addr}(hi:∀(i j:Nat) (o o':AO) (a:Addr),os[i]?=some o->os[j]?=some o'->o.live=true->o'.live=true->as[i]?=some a->as[j]?=some a->i=j):((fm h os as).map (·.1)).Nodup:=by
 refine List.pairwise_map.mpr (List.pairwise_filterMap.mpr (List.pairwise_iff_getElem.mpr λi j li U V p hp q W e=> ?_))
 obtain⟨a1,a2⟩:=List.getElem?_zip_eq_some.mp (List.getElem?_eq_getElem li)
 obtain⟨X,b2⟩:=List.getElem?_zip_eq_some.mp (List.getElem?_eq_getElem U)
 obtain⟨a3,a4,_⟩:=ux hp
 obtain⟨b3,b4,_⟩:=ux W
 exact Nat.ne_of_lt V (hi i j _ _ _ a1 X a3 b3 a2 (b2.trans (congrArg some (b4.trans (e.symm.trans a4.symm)))))
theorem gQ{P:Prop}{i:Ix}{o:AO}(e:cell [] [] i=some o):P:=by cases i<;>cases e
theorem vp{α:Type}{xs ys:List α}{P:α->Prop}(V:∀p∈xs,P p)(h2:∀p∈ys,P p):∀p∈xs++ys,P p:=λp hp=>(List.mem_append.mp hp).elim (V p) (h2 p)
theorem Rel.KS{P:Params}{F:Heap}{ρ φ:List Addr}{aq:List (Addr×Obj)}{os fs:List AO}{h:Heap}(R:Rel P F ρ φ aq os fs h):∃H,Rel P F [] [] (H++aq) [] [] h/\
 ∀F' h',(∀b o,F.get? b=some o->F'.get? b=some o)->Rel P F' [] [] (H++aq) [] [] h'->Rel P F' ρ φ aq os fs h':=by
 have mem:∀p∈fm h os ρ++fm h fs φ,∃(i:Ix) (o:AO),cell os fs i=some o/\adr ρ φ i=some p.1/\o.live=true/\h.get? p.1=some p.2:=
  vp (λp hp=>let⟨i,o,h⟩:=kA hp;⟨.o i,o,h⟩) λp hp=>let⟨i,o,h⟩:=kA hp;⟨.f i,o,h⟩
 have has:∀(i:Ix) (o:AO) (a:Addr) (c:Obj),cell os fs i=some o->adr ρ φ i=some a->o.live=true->h.get? a=some c->(a,c)∈(fm h os ρ++fm h fs φ)++aq:=λi o a c V h2 h3 h4=>List.mem_append_left _ (by
  cases i with
  |o i=>exact List.mem_append_left _ (qN V h2 h3 h4)
  |f i=>exact List.mem_append_right _ (qN V h2 h3 h4))
 refine⟨fm h os ρ++fm h fs φ,⟨R.keep,rfl,rfl,λi o a e=>gQ e,λi o a e=>gQ e,λi j o o' a e=>gQ e,vp (λp hp=> ?_) R.bz,vp (λp hp=> ?_) R.hF,λp hp i o e=>gQ e, ?_⟩,λF' h' k U=> ?_⟩
 ·obtain⟨i,o,V,h2,h3,h4⟩:=mem p hp
  exact h4
 ·obtain⟨i,o,V,h2,h3,h4⟩:=mem p hp
  exact R.new i o _ V h2 h3
 ·rw[List.map_append,List.map_append]
  refine List.nodup_append.mpr ⟨List.nodup_append.mpr ⟨qG λi j o o' a V h2 h3 h4 h5 W=>Ix.o.inj (R.inj (.o i) (.o j) o o' a V h2 h3 h4 h5 W),qG λi j o o' a V h2 h3 h4 h5 W=>Ix.f.inj (R.inj (.f i) (.f j) o o' a V h2 h3 h4 h5 W),λx hx y hy e=> ?_⟩,R.hN,λx hx y hy e=> ?_⟩
  ·obtain⟨p,hp,rfl⟩:=List.mem_map.mp hx
   obtain⟨q,X,Y⟩:=List.mem_map.mp hy
   obtain⟨i,o,V,h2,h3,h4⟩:=kA hp
   obtain⟨j,o',k1,k2,Z,J⟩:=kA X
   exact Ix.noConfusion (R.inj (.o i) (.f j) o o' p.1 V k1 h3 Z h2 (e.trans Y.symm▸k2))
  ·rw[<-List.map_append]at hx
   obtain⟨p,hp,rfl⟩:=List.mem_map.mp hx
   obtain⟨q,X,Y⟩:=List.mem_map.mp hy
   obtain⟨i,o,V,h2,h3,h4⟩:=mem p hp
   exact R.hC q X i o V h3 (h2.trans (congrArg some (e.trans Y.symm)))
 ·refine⟨U.keep,R.len,R.eX,λi o a e1 e2 hl=> ?_,λi o a e1 e2 hl=> ?_,R.inj,λp hp=>U.bz p (List.mem_append_right _ hp),λp hp=>U.hF p (List.mem_append_right _ hp),R.hC,R.hN⟩
  ·obtain⟨c,V,h2⟩:=R.at_ i o a e1 e2 hl
   exact⟨c,U.bz (a,c) (has i o a c e1 e2 hl V),h2.mono ⟨k,[],(List.append_nil _).symm⟩⟩
  ·obtain⟨c,V,h2⟩:=R.at_ i o a e1 e2 hl
   exact U.hF (a,c) (has i o a c e1 e2 hl V)
theorem Rel.KT{P:Params}{F:Heap}{ρ φ:List Addr}{aq:List (Addr×Obj)}{os fs:List AO}{h:Heap}(R:Rel P F ρ φ aq os fs h):Rel P F [] [] aq [] [] h:=
 ⟨R.keep,rfl,rfl,λi o a e=>gQ e,λi o a e=>gQ e,λi j o o' a e=>gQ e,R.bz,R.hF,λp hp i o e=>gQ e,R.hN⟩
noncomputable def posOf(l:Nat):List Nat->Nat->Option Nat
 |[],_=>none
 |x::r,i=>cond (Nat.beq l x) (some i) (posOf l r (i+1))
theorem H_{l i:Nat}{ks:List Nat}:∀{j:Nat},posOf l ks j=some i->∃m,i=j+m/\ks[m]?=some l:=by
 induction ks with
 |nil=>exactλh=>nomatch h
 |cons x r ih=>
  intro j h
  have h:cond (Nat.beq l x) (some j) (posOf l r (j+1))=some i:=h
  cases q:Nat.beq l x with
  |true=>rw[q]at h;cases h;exact⟨0,rfl,congrArg some (Nat.eq_of_beq_eq_true q).symm⟩
  |false=>
   rw[q]at h
   obtain⟨m,V,h2⟩:=ih h
   exact⟨m+1,V.trans (Nat.succ_add_eq_add_succ j m),h2⟩
noncomputable def posK(l:Nat)(ks:List Nat):Option Nat:=cond (Nat.blt l 1000) (posOf l ks 0) none
noncomputable def cellK(os:List AO)(l:Nat):AO:=cond (Nat.blt l 1000) (os.getD l .gone) .gone
noncomputable def rn(ks:List Nat):U->U
 | .obj l=>Option.casesOn (posK l ks) .ce .obj
 | .tup _=> .ce
 | .aU f x=> .aU f (rn ks x)
 |v=>v
mutual
noncomputable def fixed(ks:List Nat):U->Bool
 | .obj l=>Option.casesOn (posK l ks) false λi=>Nat.beq i l
 | .tup xs=>cm ks xs
 | .aU _ x=>fixed ks x
 |_=>true
noncomputable def cm(ks:List Nat):List U->Bool
 |[]=>true
 |x::r=>fixed ks x&&cm ks r
end
noncomputable def kg(ks:List Nat):AO->AO
 | .dict es=> .dict (es.map λp=>(p.1,rn ks p.2))
 | .frame es=> .frame (es.map λp=>(p.1,rn ks p.2))
 |o=>o
noncomputable def kh(ks:List Nat):AO->Bool
 | .list xs=>cm ks xs
 | .inst _ dl=>fixed ks (.obj dl)
 | .cell (some v)=>fixed ks v
 |_=>true
noncomputable def vq:List Nat->Bool
 |[]=>true
 |x::r=>(posOf x r 0).isNone&&vq r
noncomputable def g5(ks:List Nat)(z:ES):Bool:=vq ks&&(z.fs.all (kh ks)&&ks.all λl=>kh ks (cellK z.os l))
noncomputable def dB(ks:List Nat)(z:ES):ES:=⟨z.fs.map (kg ks),ks.map λl=>kg ks (cellK z.os l)⟩
theorem Gs{l:Nat}{ks:List Nat}:∀{j:Nat},posOf l ks j=none->l∉ks:=by
 induction ks with
 |nil=>exactλ_=>List.not_mem_nil
 |cons x r ih=>
  intro j h hm
  have h:cond (Nat.beq l x) (some j) (posOf l r (j+1))=none:=h
  cases q:Nat.beq l x with
  |true=>rw[q]at h;cases h
  |false=>
   rw[q]at h
   rcases List.mem_cons.mp hm with rfl|hm
   ·rw[Nat.beq_refl]at q;cases q
   ·exact ih h hm
theorem EZ{ks:List Nat}:vq ks=true->ks.Nodup:=by
 induction ks with
 |nil=>exactλ_=> .nil
 |cons x r ih=>
  intro h
  have h:=Bool.and_eq_true_iff.mp h
  exact List.nodup_cons.mpr ⟨Gs (Option.isNone_iff_eq_none.mp h.1),ih h.2⟩
noncomputable abbrev jx(ks:List Nat)(ρ af:List Addr):Prop:=∀(i l:Nat) (a:Addr),l<1000->ks[i]?=some l->ρ[l]?=some a->af[i]?=some a
section
variable{P:Params}{F:Heap}{ρ af φ:List Addr}{aq:List (Addr×Obj)}{h:Heap}{ks:List Nat}
theorem jx.pos(hr:jx ks ρ af){l i:Nat}(hp:posK l ks=some i){a:Addr}(e:ρ[l]?=some a):af[i]?=some a:=by
 unfold posK at hp
 cases q:Nat.blt l 1000 with
 |false=>rw[q]at hp;cases hp
 |true=>
  rw[q]at hp
  obtain⟨m,V,h2⟩:=H_ hp
  cases V.trans (Nat.zero_add m)
  exact hr _ _ _ (Nat.blt_eq.mp q) h2 e
theorem BX(hr:jx ks ρ af){a:U}{v:Value}(h:VR F ρ a v):VR F af (rn ks a) v:=
 VR.rec (motive_1:=λa v _=>VR F af (rn ks a) v) (motive_2:=λ_ _ _=>True) .none .bool .int .str .bi .ty .top (λ{l a} e=>by
  show VR F af (Option.casesOn (posK l ks) .ce .obj) _
  cases hp:posK l ks with
  |none=>exact .ce
  |some i=>exact .obj (hr.pos hp e)) .dat (λ_ _ _=> .ce) (λe _ r=> .aU e r) .cL .ce trivial (λ_ _ _ _=>trivial) h
theorem oC(hr:jx ks ρ af){a:U}{v:Value}(h:VR F ρ a v):fixed ks a=true->VR F af a v:=
 VR.rec (motive_1:=λa v _=>fixed ks a=true->VR F af a v) (motive_2:=λxs vs _=>cm ks xs=true->az F af xs vs) (λ_=> .none) (λ_=> .bool) (λ_=> .int) (λ_=> .str) (λ_=> .bi) (λ_=> .ty) (λ_=> .top) (λ{l a} e h=>by
  have h:Option.casesOn (motive:=λ_=>Bool) (posK l ks) false (λi=>Nat.beq i l)=true:=h
  cases hp:posK l ks with
  |none=>rw[hp]at h;cases h
  |some i=>
   rw[hp]at h
   cases Nat.eq_of_beq_eq_true h
   exact .obj (hr.pos hp e)) (λh _=> .dat h) (λe _ r h=> .tup e (r h)) (λe _ r h=> .aU e (r h)) (λe _=> .cL e) (λ_=> .ce) (λ_=> .nil) (λ_ _ i j h=> .cons (i (Bool.and_eq_true_iff.mp h).1) (j (Bool.and_eq_true_iff.mp h).2)) h
theorem ue(hr:jx ks ρ af){xs:List U}{vs:List Value}(h:az F ρ xs vs):cm ks xs=true->az F af xs vs:=
 h.ind (m:=λxs vs=>cm ks xs=true->az F af xs vs) (λ_=> .nil) λh _ r e=> .cons (oC hr h (Bool.and_eq_true_iff.mp e).1) (r (Bool.and_eq_true_iff.mp e).2)
theorem Na(hr:jx ks ρ af){es:List (Str×U)}{ds:List DictEntry}(h:bT P F ρ es ds):bT P F af (es.map λp=>(p.1,rn ks p.2)) ds:=by
 induction h with
 |nil=>exact .nil
 |cons h _ ih=>exact .cons (BX hr h) ih
theorem Nb{n:Str}{f:U->U}{es:List (Str×U)}:lk n (es.map λp=>(p.1,f p.2))=(lk n es).map f:=by
 induction es with
 |nil=>rfl
 |cons p r ih=>
  show(match sEq n p.1 with|true=>some (f p.2)|false=>lk n (r.map λp=>(p.1,f p.2)))=(match sEq n p.1 with|true=>some p.2|false=>lk n r).map f
  rw[ih]
  cases sEq n p.1<;>rfl
theorem Pp(hr:jx ks ρ af){o:AO}{c:Obj}(h:OR P F ρ o c)(ok:kh ks o=true):OR P F af (kg ks o) c:=by
 cases o with
 |list xs=>obtain⟨vs,n,e,r⟩:=h;exact⟨vs,n,e,ue hr r ok⟩
 |dict es=>
  obtain⟨ds,n,e,r,k⟩:=h
  exact⟨ds,n,e,Na hr r,by rw[List.map_map];exact k⟩
 |inst C dl=>
  obtain⟨d,e,r⟩:=h
  cases oC (F:=F) hr (.obj e) ok with
  |obj V=>exact⟨d,V,r⟩
 |frame es=>
  obtain⟨ds,n,e,k,r⟩:=h
  refine⟨ds,n,e,k,λy=> ?_⟩
  have:=r y
  rw[Nb]
  generalize lk y es=q at this
  generalize nsFind ds y=q2 at this
  cases q<;>cases q2<;>first|exact this|exact BX hr this
 |cell v=>
  obtain⟨U,e,r⟩:=h
  refine⟨U,e, ?_⟩
  cases v<;>cases U<;>first|exact r|exact oC hr r ok
 |any=>trivial
 |gone=>trivial
theorem jf{o:AO}:(kg ks o).live=o.live:=by cases o<;>rfl
inductive o3(ks:List Nat)(ρ φ:List Addr)(z:ES)(o:AO):Ix->Prop
 |f (n:Nat) (o':AO) (h:z.fs[n]?=some o') (e:o=kg ks o') (ok:kh ks o'=true):o3 ks ρ φ z o (.f n)
 |o (n m:Nat) (o':AO) (hk:ks[n]?=some m) (h:z.os[m]?=some o') (e:o=kg ks o') (ok:kh ks o'=true) (ha:∀a,(ks.map λx=>ρ.getD (x%1000) 0)[n]?=some a->ρ[m]?=some a):o3 ks ρ φ z o (.o n)
theorem Nc{z:ES}(hl:ρ.length=z.os.length)(hf:∀o∈z.fs,kh ks o=true)(hk:∀l∈ks,kh ks (cellK z.os l)=true){i:Ix}{o:AO}(e:cell (dB ks z).os (dB ks z).fs i=some o)(live:o.live=true):o3 ks ρ φ z o i:=by
 cases i with
 |f n=>
  obtain⟨o',q,rfl⟩:=Option.map_eq_some_iff.mp ((List.getElem?_map ..).symm.trans e)
  exact .f n o' q rfl (hf _ (List.mem_of_getElem? q))
 |o n=>
  obtain⟨m,q,rfl⟩:=Option.map_eq_some_iff.mp ((List.getElem?_map ..).symm.trans e)
  have ok:=hk m (List.mem_of_getElem? q)
  unfold cellK at ok live⊢
  cases hm:Nat.blt m 1000 with
  |false=>rw[hm]at live;cases live
  |true=>
   rw[hm]at ok live
   have ok:kh ks (z.os.getD m .gone)=true:=ok
   have live:(kg ks (z.os.getD m .gone)).live=true:=live
   show o3 ks ρ φ z (kg ks (z.os.getD m .gone)) (.o n)
   rw[List.getD_eq_getElem?_getD]at ok live⊢
   rcases Nat.lt_or_ge m z.os.length with h|h
   ·rw[List.getElem?_eq_getElem h]at ok⊢
    refine .o n m _ q (List.getElem?_eq_getElem h) rfl ok λa e=> ?_
    rw[List.getElem?_map,q]at e
    rw[List.getElem?_eq_getElem (hl▸h)]
    rw[Option.map_some,Nat.mod_eq_of_lt (Nat.blt_eq.mp hm),List.getD_eq_getElem?_getD,List.getElem?_eq_getElem (hl▸h)]at e
    exact e
   ·rw[List.getElem?_eq_none h]at live;cases live
theorem Rel.gc{z:ES}(R:Rel P F ρ φ aq z.os z.fs h)(ok:g5 ks z=true):Rel P F (ks.map λx=>ρ.getD (x%1000) 0) φ aq (dB ks z).os (dB ks z).fs h:=by
 obtain⟨hn,ok⟩:=Bool.and_eq_true_iff.mp ok
 obtain⟨hf,hk⟩:=Bool.and_eq_true_iff.mp ok
 have hr:jx ks ρ (ks.map λx=>ρ.getD (x%1000) 0):=λi l a hl e1 e2=>by
  rw[List.getElem?_map,e1,Option.map_some,Nat.mod_eq_of_lt hl,List.getD_eq_getElem?_getD,e2];rfl
 have ca:∀{i o},cell (dB ks z).os (dB ks z).fs i=some o->o.live=true->o3 ks ρ φ z o i:=Nc R.len (List.all_eq_true.mp hf) (List.all_eq_true.mp hk)
 have at_:∀i o a,cell (dB ks z).os (dB ks z).fs i=some o->adr (ks.map λx=>ρ.getD (x%1000) 0) φ i=some a->o.live=true->∃j o',cell z.os z.fs j=some o'/\o=kg ks o'/\kh ks o'=true/\adr ρ φ j=some a/\o'.live=true:=λi o a e1 e2 hl=>by
  cases ca e1 hl with
  |f n o' h e ok=>cases e;exact⟨.f n,o',h,rfl,ok,e2,jf▸hl⟩
  |o n m o' hk h e ok ha=>cases e;exact⟨.o m,o',h,rfl,ok,ha a e2,jf▸hl⟩
 refine⟨R.keep,by rw[List.length_map];exact(List.length_map ..).symm,R.eX.trans (List.length_map ..).symm,λi o a e1 e2 hl=> ?_,λi o a e1 e2 hl=> ?_,λi j o o' a e1 e2 V h2 L N=> ?_,R.bz,R.hF,λp hp i o e1 e2 e3=> ?_,R.hN⟩
 ·obtain⟨j,o',k1,rfl,k2,Y,Z⟩:=at_ i o a e1 e2 hl
  obtain⟨c,c1,c2⟩:=R.at_ j o' a k1 Y Z
  exact⟨c,c1,Pp hr c2 k2⟩
 ·obtain⟨j,o',k1,rfl,k2,Y,Z⟩:=at_ i o a e1 e2 hl
  exact R.new j o' a k1 Y Z
 ·cases ca e1 V with
  |f n J hi K _=>cases ca e2 h2 with
   |f m U W X _=>exact R.inj (.f n) (.f m) J U a hi W (jf▸K▸V) (jf▸X▸h2) L N
   |o m l U _ W X _ ha=>cases R.inj (.f n) (.o l) J U a hi W (jf▸K▸V) (jf▸X▸h2) L (ha a N)
  |o n k J hk hi K _ ha=>cases ca e2 h2 with
   |f m U W X _=>cases R.inj (.o k) (.f m) J U a hi W (jf▸K▸V) (jf▸X▸h2) (ha a L) N
   |o m l U hl W X _ hb=>
    cases R.inj (.o k) (.o l) J U a hi W (jf▸K▸V) (jf▸X▸h2) (ha a L) (hb a N)
    exact congrArg Ix.o ((List.getElem?_inj (List.getElem?_eq_some_iff.mp hk).1 (EZ hn)).mp (hk.trans hl.symm))
 ·obtain⟨j,o',k1,rfl,k2,Y,Z⟩:=at_ i o p.1 e1 e3 e2
  exact R.hC p hp j o' k1 Z Y
theorem Rel.sub{os os' fs:List AO}(R:Rel P F ρ φ aq os fs h)(hl:os'.length=os.length)(U:∀(l:Nat) (o:AO),os'[l]?=some o->o.live=true->os[l]?=some o):Rel P F ρ φ aq os' fs h:=by
 have up:∀{i:Ix} {o:AO},cell os' fs i=some o->o.live=true->cell os fs i=some o:=λ{i o} e hv=>by
  cases i with
  |f n=>exact e
  |o l=>exact U l o e hv
 exact⟨R.keep,R.len.trans hl.symm,R.eX,λi o a e1 e2 hv=>R.at_ i o a (up e1 hv) e2 hv,λi o a e1 e2 hv=>R.new i o a (up e1 hv) e2 hv,
  λi j o o' a e1 e2 V h2=>R.inj i j o o' a (up e1 V) (up e2 h2) V h2,R.bz,R.hF,λp hp i o e1 e2=>R.hC p hp i o (up e1 e2) e2,R.hN⟩
noncomputable def eF(l:Nat)(ks:List Nat):Bool:=ks.any (Nat.beq l)
noncomputable def cz(b:Bool)(ks:List Nat)(f:AO->AO):Nat->List AO->List AO
 |_,[]=>[]
 |i,o::r=>cond (eF i ks==b) (f o) .gone::cz b ks f (i+1) r
theorem uf{b:Bool}{f:AO->AO}{os:List AO}:∀{i:Nat},(cz b ks f i os).length=os.length:=by
 induction os with
 |nil=>exact rfl
 |cons o r ih=>exact congrArg Nat.succ ih
theorem oD{b:Bool}{f:AO->AO}{os:List AO}:∀{i l:Nat} {o:AO},(cz b ks f i os)[l]?=some o->o.live=true->eF (i+l) ks=b/\∃o',os[l]?=some o'/\o=f o':=by
 induction os with
 |nil=>exactλh=>nomatch h
 |cons x r ih=>
  intro i l o h hv
  cases l with
  |zero=>
   have h:cond (eF i ks==b) (f x) .gone=o:=Option.some.inj h
   cases q:eF i ks==b with
   |true=>rw[q]at h;exact⟨eq_of_beq q,x,rfl,h.symm⟩
   |false=>rw[q]at h;subst h;cases hv
  |succ l=>
   obtain⟨V,h2⟩:=ih (i:=i+1) h hv
   exact⟨(congrArg (eF · ks) (Nat.succ_add_eq_add_succ i l)).symm.trans V,h2⟩
theorem H'{b:Bool}{f:AO->AO}{os:List AO}:∀{i l:Nat} {o:AO},os[l]?=some o->eF (i+l) ks=b->(cz b ks f i os)[l]?=some (f o):=by
 induction os with
 |nil=>exactλh=>nomatch h
 |cons x r ih=>
  intro i l o h hb
  cases l with
  |zero=>
   cases h
   show some (cond (eF i ks==b) (f x) .gone)=_
   rw[show(eF i ks==b)=true from beq_iff_eq.mpr hb];rfl
  |succ l=>exact ih (i:=i+1) h ((congrArg (eF · ks) (Nat.succ_add_eq_add_succ i l)).trans hb)
noncomputable def p8(os:List AO)(ks:List Nat)(a:U):U:=cond (fixed ks a) a (Option.casesOn (cS os 9 a) .ce .dat)
noncomputable def d5(os:List AO)(ks:List Nat)(a:U):U:=cond (fixed ks a) a (U.casesOn a .ce (λ_=> .ce) (λ_=> .ce) (λ_=> .ce) (λ_=> .ce) (λ_=> .ce) (λ_=> .ce) (λ_=> .ce) (λ_=> .ce) (λys=> .tup (ys.map (p8 os ks))) (λ_ _=> .ce) (λ_ _=> .ce) .ce)
noncomputable def DH(os:List AO)(ks:List Nat)(o:AO):AO:=AO.casesOn o (λxs=> .list (xs.map (d5 os ks))) .dict .inst .frame .cell .any .gone
noncomputable def cX(ks:List Nat)(z:ES):ES:=⟨z.fs,cz true ks (DH (cz false ks id 0 z.os) ks) 0 z.os⟩
theorem z_{os:List AO}{o:AO}:(DH os ks o).live=o.live:=by cases o<;>rfl
theorem Rel.cX{z:ES}(R:Rel P F ρ φ aq z.os z.fs h):∃F',(∀b o,F.get? b=some o->F'.get? b=some o)/\Rel P F' ρ φ aq (Mine.cX ks z).os z.fs h:=by
 have sub:∀(b:Bool) (l:Nat) (o:AO),(cz b ks id 0 z.os)[l]?=some o->o.live=true->z.os[l]?=some o:=λb l o e hv=>by
  obtain⟨_,o',e1,rfl⟩:=oD e hv
  exact e1
 have RD:=R.sub (os':=cz false ks id 0 z.os) uf (sub false)
 obtain⟨F',k,n,Y⟩:=(R.sub (os':=cz true ks id 0 z.os) uf (sub true)).freeze
 have g:∀(l:Nat) (o:AO) (a:Addr) (c:Obj),(cz false ks id 0 z.os)[l]?=some o->o.live=true->ρ[l]?=some a->h.get? a=some c->F'.get? a=some c:=λl o a c e1 e2 e3 J=>by
  refine n a c J (λi o' W q2 q3=> ?_) λp hp q=>RD.hC p hp (.o l) o e1 e2 (by rw[q];exact e3)
  cases i with
  |f m=>cases R.inj (.o l) (.f m) o o' a (sub _ _ _ e1 e2) W e2 q2 e3 q3
  |o m=>
   cases R.inj (.o l) (.o m) o o' a (sub _ _ _ e1 e2) (sub _ _ _ W q2) e2 q2 e3 q3
   have V:=(oD e1 e2).1
   rw[(oD W q2).1]at V;cases V
 have X:Ext F ρ F' ρ:=⟨k,[],(List.append_nil ρ).symm⟩
 have v1:∀{a:U} {v:Value},VR F ρ a v->VR F' ρ (p8 (cz false ks id 0 z.os) ks a) v:=λ{a v} r=>by
  unfold p8
  cases fixed ks a with
  |true=>exact r.mono X
  |false=>
   cases q:cS (cz false ks id 0 z.os) 9 a with
   |none=>exact .ce
   |some d=>
    obtain⟨as,rd⟩:=(uW RD k g 9).1 r q
    exact .dat rd
 have K:∀{xs:List U} {vs:List Value},az F ρ xs vs->az F' ρ (xs.map (p8 (cz false ks id 0 z.os) ks)) vs:=λr=>r.ind (m:=λxs vs=>az F' ρ (xs.map (p8 (cz false ks id 0 z.os) ks)) vs) .nil λh _ t=> .cons (v1 h) t
 have v2:∀{a:U} {v:Value},VR F ρ a v->VR F' ρ (d5 (cz false ks id 0 z.os) ks a) v:=λ{a v} r=>by
  unfold d5
  cases fixed ks a with
  |true=>exact r.mono X
  |false=>
   cases a with
   |tup ys=>cases r with
    |tup e r=>exact .tup (k _ _ e) (K r)
   |_=>exact .ce
 have L:∀{xs:List U} {vs:List Value},az F ρ xs vs->az F' ρ (xs.map (d5 (cz false ks id 0 z.os) ks)) vs:=λr=>r.ind (m:=λxs vs=>az F' ρ (xs.map (d5 (cz false ks id 0 z.os) ks)) vs) .nil λh _ t=> .cons (v2 h) t
 have Z:∀{i:Ix} {o:AO},cell (Mine.cX ks z).os z.fs i=some o->o.live=true->∃o',cell (cz true ks id 0 z.os) z.fs i=some o'/\o'.live=true:=λ{i o} e hv=>by
  cases i with
  |f m=>exact⟨o,e,hv⟩
  |o l=>
   obtain⟨q,o',W,rfl⟩:=oD e hv
   refine⟨o', ?_,z_▸hv⟩
   exact H' W q
 refine⟨F',k,Y.keep,R.len.trans uf.symm,R.eX,λi o a e1 e2 hv=> ?_,λi o a e1 e2 hv=> ?_,λi j o o' a e1 e2 V h2 N G=> ?_,R.bz,Y.hF,λp hp i o e1 e2 e3=> ?_,R.hN⟩
 ·cases i with
  |f m=>
   obtain⟨c,c1,c2⟩:=R.at_ (.f m) o a e1 e2 hv
   exact⟨c,c1,c2.mono X⟩
  |o l=>
   obtain⟨_,o',q,rfl⟩:=oD e1 hv
   obtain⟨c,c1,c2⟩:=R.at_ (.o l) o' a q e2 (z_▸hv)
   refine⟨c,c1, ?_⟩
   cases o' with
   |list xs=>obtain⟨vs,n,e,r⟩:=c2;exact⟨vs,n,e,L r⟩
   |_=>exact OR.mono X c2
 ·obtain⟨o',W,q2⟩:=Z e1 hv
  exact Y.new i o' a W e2 q2
 ·obtain⟨x,W,q2⟩:=Z e1 V
  obtain⟨y,p1,p2⟩:=Z e2 h2
  exact Y.inj i j x y a W p1 q2 p2 N G
 ·obtain⟨x,W,q2⟩:=Z e1 e2
  exact Y.hC p hp i x W q2 e3
end
structure GI where
 f:Addr
 fi:FI
 init:Stmt
 t1:PySem.Expr
 t2:PySem.Expr
 t3:PySem.Expr
 e2:PySem.Expr
 e3:PySem.Expr
 q2:Pos
 p2:Pos
 p3:Pos
 q3:Pos
 p4:Pos
 p5:Pos
 p6:Pos
noncomputable def GI.y2(G:GI):Stmt:= .Expr (.Yield (some G.e2) G.q2) G.p2
noncomputable def GI.y3(G:GI):Stmt:= .Expr (.Yield (some G.e3) G.q3) G.p4
noncomputable def GI.w2(G:GI):Stmt:= .While G.t2 [G.y2] [] G.p3
noncomputable def GI.w3(G:GI):Stmt:= .While G.t3 [G.y3] [] G.p5
noncomputable def GI.w1(G:GI):Stmt:= .While G.t1 [G.w2,G.w3] [] G.p6
noncomputable def GI.body(G:GI):List Stmt:=[G.init,G.w1]
noncomputable def wn(k:List (Str×U)->α->EM β)(a:α)(z:ES):DT (β×ES):=match z.fs with
 | .frame fb::rest=>k fb a ⟨rest,z.os⟩
 |_=> .fail
noncomputable def c8(es:List (Str×U))(m:EM α)(k:List (Str×U)->α->EM β):EM β:=λz=>(m ⟨.frame es::z.fs,z.os⟩).bind λr=>wn k r.1 r.2
noncomputable def mQ(asg:U->EM Unit)(body:EM FL)(k:EM FL)(v:U):EM FL:=bd (asg v) λ_=>bd body (fu k)
noncomputable def jo:Nat->Nat->List Nat->Bool
 |_,0,_=>true
 |i,n+1,x::r=>Nat.beq (x%1000) i&&jo (i+1) n r
 |_,_+1,[]=>false
theorem KU{n:Nat}:∀{i:Nat} {ks:List Nat},jo i n ks=true->∀j,j<n->∃x,ks[j]?=some x/\x%1000=i+j:=by
 induction n with
 |zero=>exactλ_ j h=>(Nat.not_lt_zero j h).elim
 |succ n ih=>
  intro i ks h j U
  cases ks with
  |nil=>cases h
  |cons x r=>
   obtain⟨V,h2⟩:=Bool.and_eq_true_iff.mp h
   cases j with
   |zero=>exact⟨x,rfl,Nat.eq_of_beq_eq_true V⟩
   |succ j=>obtain⟨y,e1,e2⟩:=ih h2 j (Nat.lt_of_succ_lt_succ U);exact⟨y,e1,e2.trans (Nat.succ_add_eq_add_succ i j)⟩
structure jy where
 k:Nat
 kf:ES->List Nat
noncomputable def jz(p:jy)(z:ES):ES:=cX (p.kf z) z
noncomputable def mc(p:jy)(es:List (Str×U))(cont:List (Str×U)->EM β):EM β:=λz=>
 .test (jo 0 p.k (p.kf ⟨.frame es::z.fs,z.os⟩)&&g5 (p.kf ⟨.frame es::z.fs,z.os⟩) (jz p ⟨.frame es::z.fs,z.os⟩))
  (wn (λes (_:Unit)=>cont es) () (dB (p.kf ⟨.frame es::z.fs,z.os⟩) (jz p ⟨.frame es::z.fs,z.os⟩))) .fail
noncomputable def dJ(G:GI)(ih:IH)(asg:U->EM Unit)(body:EM FL)(p:jy):Nat->Bool->List (Str×U)->EM FL
 |0,_,_=>ae
 |n+1,true,es=>c8 es (ih.T G.t3) λes c=>aE c
   (c8 es (ih.E G.e3) λes v=>mQ asg body (dJ G ih asg body p n true es) v)
   (dJ G ih asg body p n false es)
 |n+1,false,es=>mc p es λes=>c8 es (ih.T G.t1) λes c=>aE c
   (c8 es (ih.T G.t2) λes c=>aE c ae (dJ G ih asg body p n true es))
   (ak .next)
theorem Ext.gc{V F:Heap}{U ρ:List Addr}{ks:List Nat}{k:Nat}(X:Ext V U F ρ)(h:jo 0 k ks=true)(hk:U.length<=k):Ext V U F (ks.map λx=>ρ.getD (x%1000) 0):=by
 obtain⟨t,rfl⟩:=X.pre
 refine⟨X.keep,((ks.map λx=>(U++t).getD (x%1000) 0).drop U.length), ?_⟩
 have:(ks.map λx=>(U++t).getD (x%1000) 0).take U.length=U:=by
  apply List.ext_getElem?
  intro i
  rw[List.getElem?_take]
  split
  ·rename_i hi
   obtain⟨y,e1,e2⟩:=KU h i (Nat.lt_of_lt_of_le hi hk)
   rw[List.getElem?_map,e1,Option.map_some,e2,Nat.zero_add,List.getD_eq_getElem?_getD,List.getElem?_append_left hi,List.getElem?_eq_getElem hi];rfl
  ·rename_i hi
   rw[List.getElem?_eq_none (Nat.not_lt.mp hi)]
 exact(List.take_append_drop U.length _).symm.trans (congrArg (·++_) this)
inductive sj(k:List (Str×U)->α->EM β)(Q:β×ES->Prop)(a:α):ES->Prop
 |mk (fb:List (Str×U)) (rest os:List AO) (h:(k fb a ⟨rest,os⟩).Holds Q):sj k Q a ⟨.frame fb::rest,os⟩
theorem yT{k:List (Str×U)->α->EM β}{a:α}{z:ES}{Q:β×ES->Prop}(h:(wn k a z).Holds Q):sj k Q a z:=by
 obtain⟨fs,os⟩:=z
 cases fs with
 |nil=>exact h.elim
 |cons o rest=>cases o with
  |frame fb=>exact⟨fb,rest,os,h⟩
  |_=>exact h.elim
theorem qO{es:List (Str×U)}{m:EM α}{k:List (Str×U)->α->EM β}{z:ES}{Q:β×ES->Prop}(h:(c8 es m k z).Holds Q):(m ⟨.frame es::z.fs,z.os⟩).Holds λr=>sj k Q r.1 r.2:=
 DT.Holds.mono (λ_ h=>yT h) (DT.bK h)
noncomputable abbrev Cx.inner(C:Cx):Cx:={C with GT:=Array GenState,gk:=λg=>g}
section
variable{C:Cx}{S:ST}{call:Addr->List U->EM U}{N fuel:Nat}{G:GI}{ih:IH}{env:Env}{A:Around}{asg:U->EM Unit}{body:EM FL}
noncomputable def md(G:GI)(env:Env):Code:= .whileLoop G.t1 [G.w2,G.w3] [] env
noncomputable def DI(G:GI)(env:Env):Code:= .whileLoop G.t2 [G.y2] [] env
noncomputable def s8(G:GI)(env:Env):Code:= .whileLoop G.t3 [G.y3] [] env
inductive nC(G:GI)(env:Env):Frame->Prop
 |mk (k:Result->Sem Fin) (lv:List Value) (p:Pos) (e:k (.ok .next)= .pure (.done (.ret .none))):nC G env (.ret k none false lv (.func G.body env) p [])
inductive wo(G:GI)(env:Env):Frame->Prop
 |mk (k:Result->Sem Fin) (lv:List Value) (p:Pos) (e:k (.ok .next)= .pure (.again (md G env))):wo G env (.ret k none false lv (md G env) p [])
inductive lR(G:GI)(env:Env):Code->List Frame->Prop
 |c3 {f3 f1:Frame}:wo G env f3->nC G env f1->lR G env (s8 G env) [f3,f1]
 |c1 {f1:Frame}:nC G env f1->lR G env (md G env) [f1]
 |c2 {k:Result->Sem Fin} {lv:List Value} {p:Pos} {f1:Frame}:nC G env f1->lR G env (DI G env) [.ret k none false lv (md G env) p [],f1]
 |c0:lR G env (.func G.body env) []
inductive jA(C:Cx)(W:Wh)(L:Addr)(Q:FL×ES->Prop)(cY:Array GenState)(cZ:OsState)(T:List (Str×U)->EM FL)(s:Shared):Prop
 |mk (es:List (Str×U)) (z:ES) (F:Heap) (ρ:List Addr) (X:Ext W.F W.ρ F ρ) (S:SW C ⟨F,ρ,L::W.φ,W.aq⟩ ⟨.frame es::z.fs,z.os⟩ s) (q:(T es z).Holds Q) (g:s.gens=cY) (o:s.os=cZ)
inductive DJ(C:Cx)(W:Wh)(L:Addr)(Q:FL×ES->Prop)(cY:Array GenState)(cZ:OsState)(asg:U->EM Unit)(body:EM FL)(T:Nat->List (Str×U)->EM FL)(n:Nat)(v:Value)(s:Shared)(ki:Resume->Shared->Prop):Prop
 |mk (m:Nat) (av:U) (es:List (Str×U)) (z:ES) (F:Heap) (ρ:List Addr) (hm:m<=n) (X:Ext W.F W.ρ F ρ) (S:SW C ⟨F,ρ,L::W.φ,W.aq⟩ ⟨.frame es::z.fs,z.os⟩ s) (r:VR F ρ av v) (q:(mQ asg body (T m es) av z).Holds Q) (g:s.gens=cY) (o:s.os=cZ)
  (k:∀s',jA C W L Q cY cZ (T m) s'->ki (.send .none) s')
noncomputable def wp(C:Cx)(W:Wh)(L:Addr)(Q:FL×ES->Prop)(cY:Array GenState)(cZ:OsState)(asg:U->EM Unit)(body:EM FL)(T:Nat->List (Str×U)->EM FL):Protocol:=λn V v s ki=>DJ C W L Q cY cZ asg body T n v s ki
noncomputable abbrev CS(C:Cx)(W:Wh)(L:Addr)(Q:FL×ES->Prop)(cY:Array GenState)(cZ:OsState):Nat->Shared->Shared->Prop:=λn U s=>jA C W L Q cY cZ (λ_=>ak .next) s
noncomputable abbrev wq(C:Cx)(W:Wh)(L:Addr)(Q:FL×ES->Prop)(cY:Array GenState)(cZ:OsState):GenEnd:=λn U r s=>r= .ok (.ret .none)/\CS C W L Q cY cZ n U s
variable{W:Wh}{L:Addr}{Q:FL×ES->Prop}{cY:Array GenState}{cZ:OsState}{sc:Scope}{p:jy}{s:Shared}
theorem Nd{k:List (Str×U)->EM FL}(hp:W.ρ.length<=p.k)(h:jA C W L Q cY cZ (λes=>mc p es k) s):jA C W L Q cY cZ k s:=by
 obtain⟨es,z,F,ρ,X,S,q,g,o⟩:=h
 cases Y:(jo 0 p.k (p.kf ⟨.frame es::z.fs,z.os⟩)&&g5 (p.kf ⟨.frame es::z.fs,z.os⟩) (jz p ⟨.frame es::z.fs,z.os⟩))with
 |false=>exact(q.2 Y).elim
 |true=>
  have q:=yT (q.1 Y)
  obtain⟨V,h2⟩:=Bool.and_eq_true_iff.mp Y
  obtain⟨F',kk,J⟩:=S.rel.cX (ks:=p.kf ⟨.frame es::z.fs,z.os⟩)
  have K:Rel _ F' ρ (L::W.φ) W.aq (jz p ⟨.frame es::z.fs,z.os⟩).os (jz p ⟨.frame es::z.fs,z.os⟩).fs s.heap:=J
  have Z:SW C ⟨F',(p.kf ⟨.frame es::z.fs,z.os⟩).map (λx=>ρ.getD (x%1000) 0),L::W.φ,W.aq⟩ (dB (p.kf ⟨.frame es::z.fs,z.os⟩) (jz p ⟨.frame es::z.fs,z.os⟩)) s:=⟨S.base.keeps kk,K.gc h2⟩
  have N:Ext W.F W.ρ F' ((p.kf ⟨.frame es::z.fs,z.os⟩).map λx=>ρ.getD (x%1000) 0):=⟨λb o e=>kk b o (X.keep b o e),(X.gc V hp).pre⟩
  generalize dB (p.kf ⟨.frame es::z.fs,z.os⟩) (jz p ⟨.frame es::z.fs,z.os⟩)=G at q Z
  cases q with
  |mk fb rest os h=>exact⟨fb,⟨rest,os⟩,F',_,N,Z,h,g,o⟩
section
variable{B:Around}(I:be C.inner B sc [] env ih)(HA:∀F ρ,Ext W.F W.ρ F ρ->At sc [] env ⟨F,ρ,L::W.φ,W.aq⟩)
include I HA
theorem uy{e:PySem.Expr}{k1 k2:List (Str×U)->EM FL}{Φ:Bool->Shared->Prop}{E:Value->Shared->Prop}(h:jA C.inner W L Q cY cZ (λes=>c8 es (ih.T e) λes c=>aE c (k1 es) (k2 es)) s)(V:∀s',jA C.inner W L Q cY cZ k1 s'->Φ true s')(h2:∀s',jA C.inner W L Q cY cZ k2 s'->Φ false s'):
 wpAny (model C.prog C.w) B (isTrue e env (eval e env)) Φ E s:=by
 obtain⟨es,z,F,ρ,X,S,q,g,o⟩:=h
 refine(I.T e _ _ _ S (HA F ρ X)).out (qO q) λb D M O Y Z q J K hb N G=> ?_
 cases hb
 cases q with
 |mk H rest os hk=>cases b with
  |true=>exact V _ ⟨H,⟨rest,os⟩,Y,Z,X.trans J,K,hk.1 rfl,Eq.trans N g,G.trans o⟩
  |false=>exact h2 _ ⟨H,⟨rest,os⟩,Y,Z,X.trans J,K,hk.2 rfl,Eq.trans N g,G.trans o⟩
theorem KW{e:PySem.Expr}{k:List (Str×U)->U->EM FL}{Φ:Value->Shared->Prop}{E:Value->Shared->Prop}(h:jA C.inner W L Q cY cZ (λes=>c8 es (ih.E e) k) s)
 (V:∀v s' av es z F ρ,Ext W.F W.ρ F ρ->SW C.inner ⟨F,ρ,L::W.φ,W.aq⟩ ⟨.frame es::z.fs,z.os⟩ s'->VR F ρ av v->(k es av z).Holds Q->s'.gens=cY->s'.os=cZ->Φ v s'):wpAny (model C.prog C.w) B (eval e env) Φ E s:=by
 obtain⟨es,z,F,ρ,X,S,q,g,o⟩:=h
 refine(I.E e _ _ _ S (HA F ρ X)).out (qO q) λv M av O Y Z q J K N G H=> ?_
 cases q with
 |mk D rest os hk=>exact V v _ av D ⟨rest,os⟩ Y Z (X.trans J) K N hk (Eq.trans G g) (H.trans o)
end
theorem KX(hp:W.ρ.length<=p.k)(HA:∀F ρ,Ext W.F W.ρ F ρ->At sc [] env ⟨F,ρ,L::W.φ,W.aq⟩)(P:env.scope.isCoroutine=false)(hi:interactive env=false)
 (I:∀c fs,lR G env c fs->be C.inner (A.over c fs) sc [] env ih)(m:Nat):
 (∀n U s f3 f1,m<=n->jA C.inner W L Q cY cZ (dJ G ih asg body p m true) s->wo G env f3->nC G env f1->
  Seg (model C.prog C.w) A (wq C.inner W L Q cY cZ) (wp C.inner W L Q cY cZ asg body λm=>dJ G ih asg body p m true) n U (s8 G env) ((model C.prog C.w).den (s8 G env)) [f3,f1] s)/\
  (∀n U s f1,m<=n->jA C.inner W L Q cY cZ (dJ G ih asg body p m false) s->nC G env f1->
   Seg (model C.prog C.w) A (wq C.inner W L Q cY cZ) (wp C.inner W L Q cY cZ asg body λm=>dJ G ih asg body p m true) n U (md G env) ((model C.prog C.w).den (md G env)) [f1] s):=by
 induction m with
 |zero=>exact⟨λn U s f3 f1 _ h _ _=>by cases h with|mk _ _ _ _ _ _ q=>exact q.elim,λn U s f1 _ h _=>by cases h with|mk _ _ _ _ _ _ q=>exact q.elim⟩
 |succ m R=>
  obtain⟨H,y⟩:=R
  refine⟨λn U s f3 f1 hn h h3 V=> ?_,λn U s f1 hn h V=> ?_⟩
  ·cases n with
   |zero=>exact(Nat.not_succ_le_zero m hn).elim
   |succ n=>
    have hn:=Nat.le_of_succ_le_succ hn
    have D:=I _ _ (.c3 h3 V)
    refine seg_whileLoop (uy (k1:=λes=>c8 es (ih.E G.e3) λes v=>mQ asg body (dJ G ih asg body p m true es) v) (k2:=dJ G ih asg body p m false) D HA h (λZ Y=> ?_) λZ Y=> ?_)
    ·refine seg_execs_cons ?_
     cases h3 with
     |mk M O p3 e3=>cases V with
      |mk k1 B p1 e1=>
       exact seg_Expr_Yield (n:=n) (by rfl) rfl (by rfl) (KW D HA Y λv J av es z F ρ X S u q g o ki j=>⟨m,av,es,z,F,ρ,hn,X,S,u,q,g,o,λs' h'=>j .none s' (seg_execs_nil (K:=λf=>match f with
        | .next| .cont=> .pure (.again (s8 G env))
        | .brk=> .pure (.done .next)
        | .ret v=> .pure (.done (.ret v))) (seg_again rfl (H n s' s' _ _ hn h' ⟨M,O,p3,e3⟩ ⟨k1,B,p1,e1⟩)))⟩) P hi
    ·refine seg_execs_nil (K:=λf=> .pure (.done f)) ?_
     cases h3 with
     |mk M O p3 e3=>
      refine seg_leaf (.ok .next) ?_
      rw[e3]
      exact seg_again rfl (y (n+1) _ Z f1 (Nat.le_succ_of_le hn) Y V)
  ·have h:=Nd (k:=λes=>c8 es (ih.T G.t1) λes c=>aE c (c8 es (ih.T G.t2) λes c=>aE c ae (dJ G ih asg body p m true es)) (ak .next)) hp h
   refine seg_whileLoop (uy (k1:=λes=>c8 es (ih.T G.t2) λes c=>aE c ae (dJ G ih asg body p m true es)) (k2:=λ_=>ak .next) (I _ _ (.c1 V)) HA h (λZ Y=> ?_) λZ Y=> ?_)
   ·refine seg_execs_cons (seg_While λpos=>seg_whileLoop (uy (k1:=λ_=>ae) (k2:=dJ G ih asg body p m true) (I (DI G env) _ (.c2 V)) HA Y (λJ N=> ?_) λJ N=> ?_))
    ·cases N with|mk _ _ _ _ _ _ q=>exact q.elim
    ·exact seg_execs_nil (K:=λf=> .pure (.done f)) (seg_leaf (.ok .next) (seg_execs_cons (st:=G.w3) (rest:=[]) (K:=λf=>match f with
      | .next| .cont=> .pure (.again (md G env))
      | .brk=> .pure (.done .next)
      | .ret v=> .pure (.done (.ret v))) (seg_While λpos=>H n _ J _ f1 (Nat.le_of_succ_le hn) N ⟨_,_,_,rfl⟩ V)))
   ·refine seg_execs_nil (K:=λf=> .pure (.done f)) ?_
    cases V with
    |mk k1 B p1 e1=>
     refine seg_leaf (.ok .next) ?_
     rw[e1]
     exact seg_end (.ok (.ret .none)) ⟨rfl,Y⟩
end
section
variable{M:Model}{A:Around}{E:Value->Shared->Prop}{s:Shared}{K:Frag}
theorem Ia{x c f:Addr}{W:Obj}{Y:Option Obj}{Q:Value->Shared->Prop}{prog:Program}{w:World}(X:K.In s.heap)(I:InstAt s.heap x W c Y)(hs:findIn K (.ref c) "__iter__"=some (some (.ref f)))(hf:typeIn K (.ref f)=some (.type "function"))
 (h:wpAny (model prog w) A (call (.ref f) [.ref x]) (λv s'=>∃a g,v= .ref a/\s'.heap.IsGen a g/\Q (.ref a) s') E s):wpAny (model prog w) A (pyIter (.ref x)) Q E s:=by
 have last:wpAny (model prog w) A (call (.ref f) [.ref x]>>=λv=>pure (some v)) (λr s'=>∃a g,r=some (.ref a)/\s'.heap.IsGen a g/\Q (.ref a) s') E s:=by
  refine wpAny_bind (wpAny_mono h (λv s' q=> ?_) λ_ _ e=>e)
  obtain⟨a,g,rfl,V,h2⟩:=q
  exact wpAny_pure ⟨a,g,rfl,V,h2⟩
 have mid:∀refuse:Sem Value,wpAny (model prog w) A (callSpecialIfBoundUnlessNone? (.ref x) "__iter__" refuse) (λr s'=>∃a g,r=some (.ref a)/\s'.heap.IsGen a g/\Q (.ref a) s') E s:=by
  intro refuse
  simp only[callSpecialIfBoundUnlessNone?,bindSpecialIfBound?]
  refine wpAny_holding (wpAny_bind (wpAny_bind (wpAny_bind (I.type.here ((looks_findIn X hs).here ?_)))))
  have U:wpAny (model prog w) A (if(Value.ref f==Value.none)=true then(refuse>>=λv=>pure (some v))else(call (.ref f) [.ref x]>>=λv=>pure (some v))) (λr s'=>∃a g,r=some (.ref a)/\s'.heap.IsGen a g/\Q (.ref a) s') E s:=by
   rw[if_neg (show¬((Value.ref f==Value.none)=true)from Bool.false_ne_true)]
   exact last
  refine wpAny_bind (wpAny_askSetting (wpAny_ite ?_))
  split
  ·exact wpAny_bind ((bind_fn X _ hf).here (wpAny_pure (by exact U)))
  ·exact wpAny_tryCatch (wpAny_bind ((bind_fn X _ hf).here (wpAny_pure (by exact U))))
 unfold pyIter
 refine wpAny_bind (wpAny_bind (I.type.here ((looks_findIn X hs).here ?_)))
 show wpAny _ A (callSpecialIfBoundUnlessNone? (.ref x) "__iter__" _>>=_) Q E s
 refine wpAny_bind (wpAny_mono (mid _) (λr s' q=> ?_) λ_ _ e=>e)
 obtain⟨a,g,rfl,V,h2⟩:=q
 exact wpAny_bind (wpAny_specialOf V.typeIs slot_gen_next.lookup (wpAny_pure h2))
theorem Ib{prog:Program}{w:World}{a:Addr}{g n:Nat}{gs:GenState}{P:Nat->Shared->Shared->Prop}{Y:Protocol}{Q:Option Value->Shared->Prop}(K:A.handled=none)
 (hl:s.heap.NoLimit)(L:A.depth<recursionLimit)(W:s.heap.IsGen a g)(J:s.gens[g]?=some gs)
 (X:gs.Goes (model prog w) A.in1 (λn Z r U=>r= .ok (.ret .none)/\P n Z U) Y n (.send .none) (s.setGen g .running))
 (N:∀v U V,V.bare=true->Y (n-1) (s.setGen g .running) v U (λr' G=>match n with
   |0=>False
   |m+1=>V.Goes (model prog w) A.in1 (λn Z r U=>r= .ok (.ret .none)/\P n Z U) Y m r' G)->Q (some v) (U.setGen g V))
 (H:∀U,P n (s.setGen g .running) U->∀h',(∀b o,U.heap.get? b=some o->h'.get? b=some o)->Q none {U.setGen g .finished with heap:=h'}):
 wpAny (model prog w) A (pyNext (.ref a)) Q E s:=by
 unfold pyNext
 refine wpAny_bind (wpAny_attempt (wpAny_callSpecial?_slot (name:=Str.ofString "__next__") W.typeIs slot_gen_next (wpAny_call_entry slot_gen_next W.typeIs entry_gen_next ?_ (args_gen_next _))))
 show wpAny _ A.in1 (Builtin.Generator.genWake (.ref a) (.send .none)) _ _ s
 unfold Builtin.Generator.genWake
 refine wpAny_bind (wpAny_holding (wpAny_genNumber W (wpAny_bind (wpAny_genState J ?_))))
 cases gs with
 |running=>exact X.elim
 |finished=>exact X.elim
 |_=>
  refine wpAny_bind (wpAny_roomToWake hl L ?_)
  show wpAny _ A.in1 (.resume g (.send .none) [] _) _ _ s
  refine wpAny_resumeQ J X (λr U hr=> ?_) (λv U V hb hv=>wpAny_pure ⟨v,rfl,wpAny_pure (N v U V hb hv)⟩)
  obtain⟨rfl,hp⟩:=hr
  show wpAny _ A.in1 (newExc (.type "StopIteration") []>>=_) _ _ _
  simp only[newExc,newTuple]
  refine wpAny_bind (wpAny_bind (wpAny_newObj_type (wpAny_bind (m:=firstArgMember _ _) (wpAny_of_eq (a:=Value.none) (by first|rfl|(simp only[firstArgMember];rfl)) (wpAny_newObj_type ?_ (by size_fits)))) (by size_fits)))
  simp only[raiseNew]
  refine wpAny_bind (wpAny_bind (wpAny_handled ?_))
  rw[show A.in1.handled=none from K]
  refine wpAny_throw (wpAny_bind (wpAny_isInstance (T:="StopIteration") (b:=true) ⟨_,Heap.get?_push_size _ rfl,rfl⟩ isSubtype_stop ?_))
  exact wpAny_pure (H U hp _ λb o e=>Heap.get?_push_of_some _ (Heap.get?_push_of_some _ e))
end
noncomputable def DN(m:EM FL)(r:FL):EM FL:=FL.casesOn r m ae ae λ_=>ae
noncomputable def genS(G:GI)(iU:IH)(asg:U->EM Unit)(body:EM FL)(kf:Nat->ES->List Nat)(m:Nat)(x:U):EM FL:=bl (gW G.fi [x]) λbs=>
 c8 [] (bd (gl G.fi.scope.names []) λcl=>bd (storeAll G.fi.scope cl bs) λ_=>iB cl (ak ())) λes _=>λz=>c8 es (iU.St G.init) (λes r=>DN (dJ G iU asg body ⟨z.os.length,kf z.os.length⟩ m false es) r) z
noncomputable def Bj(S:ST)(G:GI)(iU ih:IH)(sc:Scope)(cl:CL)(kf:Nat->ES->List Nat)(m:Nat)(tg it:PySem.Expr)(b:List Stmt):EM FL:=bo (gU it) ae (bd (ih.E it) λx=>gO x λl=>gA l λc _ _=>
 nU (S.attr c "__iter__") ae (λf=>bo (Nat.beq f G.f) (genS G iU (bv S sc cl ih.E tg) (aB ih.St b) kf m x) ae) λ_=>ae)
inductive GenQ(S:ST)(G:GI)(z:ES)(ρ:List Addr)(k:U->EM β)(Q:β×ES->Prop):U->Value->Prop
 |mk (l:Nat) (x c:Addr) (dl:Nat) (es:List (Str×U)) (hx:ρ[l]?=some x) (ho:z.os[l]?=some (.inst c dl)) (hd:z.os[dl]?=some (.dict es)) (ha:S.attr c "__iter__"= .aU G.f) (q:(k (.obj l) z).Holds Q):GenQ S G z ρ k Q (.obj l) (.ref x)
theorem RR{S:ST}{G:GI}{F:Heap}{ρ:List Addr}{z:ES}{k:U->EM β}{Q:β×ES->Prop}{a:U}{v:Value}(r:VR F ρ a v)(q:(gO a (λl=>gA l λc _ _=>nU (S.attr c "__iter__") ae (λf=>bo (Nat.beq f G.f) (k a) ae) λ_=>ae) z).Holds Q):GenQ S G z ρ k Q a v:=by
 cases r with
 |@obj l x hx=>
  refine r_ (P:=λT=>T.Holds Q->GenQ S G z ρ k Q (.obj l) (.ref x)) False.elim (λc dl es ho hd=>rS (P:=λT=>T.Holds Q->GenQ S G z ρ k Q (.obj l) (.ref x)) False.elim (λ_=>False.elim) (λf ha=>bP (P:=λT=>T.Holds Q->GenQ S G z ρ k Q (.obj l) (.ref x)) (λhf q=> ?_) λ_=>False.elim) λ_ _=>False.elim) q
  exact⟨l,x,c,dl,es,hx,ho,hd,Nat.eq_of_beq_eq_true hf▸ha,q⟩
 |_=>exact q.elim
theorem SW.TP{C:Cx}{W:Wh}{z:ES}{s:Shared}(S:SW C W z s):SW C.inner W z s:=⟨⟨S.base.K,S.base.g,S.base.b,S.base.nolimit,S.base.sm⟩,S.rel⟩
theorem SW.out{C:Cx}{W:Wh}{z:ES}{s:Shared}(S:SW C.inner W z s):SW C W z s:=⟨⟨S.base.K,S.base.g,S.base.b,S.base.nolimit,S.base.sm⟩,S.rel⟩
theorem qH{s:Shared}{G₀:Array GenState}{a b:GenState}(h:s.gens=G₀.push a):(s.setGen G₀.size b).gens=G₀.push b:=by
 unfold Shared.setGen
 dsimp only
 rw[h]
 apply Array.ext'
 simp[Array.setIfInBounds]
theorem Id{G₀:Array GenState}{a:GenState}:(G₀.push a)[G₀.size]?=some a:=by simp
section
variable{C:Cx}{A:Around}{S:ST}{call:Addr->List U->EM U}{n:Nat}{sc:Scope}{cl:CL}{env:Env}{s:Shared}{W:Wh}{z:ES}{N fuel:Nat}{G:GI}
theorem Nf{env:Env}(B:Base C.inner S)(W:ba C.inner n call)(V:A.handled=none)(h2:A.depth+n+1<=900)(h3:A.units+8*n+8<=9000){c:Code}{fs:List Frame}(X:lR G env c fs):Ok C.inner (A.in1.over c fs) S call n:=by
 have d1:A.depth+1+n<=900:=by lia
 have U:(A.units+1)+3+8*n<=9000:=by lia
 refine⟨B.tok,B.attr,B.ip,B.callee,W, ?_⟩
 cases X with
 |c3 h h'=>cases h;cases h';exact⟨V,d1,U⟩
 |c1 h=>cases h;exact⟨V,d1,U⟩
 |c2 h=>cases h;exact⟨V,d1,U⟩
 |c0=>exact⟨V,d1,U⟩
end
section
variable{C:Cx}{A:Around}{S:ST}{call:Addr->List U->EM U}{n:Nat}{sc xy:Scope}{cl:CL}{env g6:Env}{s:Shared}{W:Wh}{z:ES}{G:GI}{iU f8:IH}{tg:PySem.Expr}{b:List Stmt}{L a:Addr}{G₀:Array GenState}{Q:FL×ES->Prop}{jO:OsState}{T:Nat->List (Str×U)->EM FL}{E:Value->Shared->Prop}
noncomputable def pu(F:Heap)(a:Addr)(g:Nat):Prop:=∃nm U,F.get? a=some {cls:= .type "generator",data:= .fields #[.int g 0,nm,U]}
theorem pu.is{F:Heap}{g:Nat}(h:pu F a g){h':Heap}(k:∀b o,F.get? b=some o->h'.get? b=some o):h'.IsGen a g:=let⟨nm,U,e⟩:=h;⟨_,nm,U,k _ _ e,rfl,rfl,rfl⟩
theorem Ie(p:Ok C.inner A S call n)(u:be C.inner A sc cl env f8)(d:∀gens st,GenState.bare st=true->C.gk (gens.push st)=C.gk gens)(z:pu W.F a G₀.size)(H:At sc cl env W){k:Nat}{v:Value}{X:Shared}{ki:Resume->Shared->Prop}{U:GenState}(hb:U.bare=true)
 (o:DJ C.inner W L Q (G₀.push .running) jO (bv S sc cl f8.E tg) (aB f8.St b) T k v X ki){N:Shared->Prop}(hN:∀s₃,s₃.gens=G₀.push U->s₃.os=jO->ki (.send .none) (s₃.setGen G₀.size .running)->s₃.heap.IsGen a G₀.size->s₃.heap.NoLimit->N s₃):
 wpAny (model C.prog C.w) A (letOwnedTupleGo tg (.ref a) v) (λ_ r=>wpAny (model C.prog C.w) A (assign tg env v) (λ_ i=>wpAny (model C.prog C.w) A (execs b env) (λf s₃=>match f with
  | .next=>N s₃
  | .cont=>N s₃
  | .brk=>nV C W (C.gk G₀) jO RF Q .next s₃
  | .ret v=>nV C W (C.gk G₀) jO RF Q (.ret v) s₃) E i) E r) E (X.setGen G₀.size U):=by
 obtain⟨m,av,Y,G,I,D,hle,M,V,s,l,h,x,ki⟩:=o
 obtain⟨nm,qn,RT⟩:=id z
 have V:SW C.inner ⟨I,D,L::W.φ,W.aq⟩ ⟨.frame Y::G.fs,G.os⟩ (X.setGen G₀.size U):=V
 obtain⟨O,TQ,TR⟩:=V.rel.at_ (.f 0) (.frame Y) L rfl rfl rfl
 have cF:SW C.inner ⟨I,D,W.φ,(L,O)::W.aq⟩ G (X.setGen G₀.size U):=⟨V.base,V.rel.hide rfl TQ⟩
 have j:At sc cl env ⟨I,D,W.φ,(L,O)::W.aq⟩:=(H.to M).dh (L,O)
 refine tV (V.rel.keep _ _ (M.keep _ _ RT)) rfl (by decide) ((oa p u cF j s).out (DT.bK l) λ_ s₃ _ d7 dR dr ey B bO _ fM fN=>(mx u bO (j.to B)).out (DT.bK ey) λf Z fl P g t mt c J rf mu mv=> ?_)
 have R:=(M.trans B).trans c
 have q:Z.gens=G₀.push U:=(Eq.trans mu fM).trans (qH h)
 have y:=(mv.trans fN).trans x
 have K:SW C.inner ⟨g,t,L::W.φ,W.aq⟩ ⟨.frame Y::P.fs,P.os⟩ Z:=⟨J.base,J.rel.vj (OR.mono (Ext.trans B c) TR)⟩
 have key:=uX (C:=C) (W:=W) (N:=N) (s':=Z) rf mt (λhq=>hN Z q y (ki _ ⟨Y,P,g,t,R,K,hq,qH q,y⟩) (z.is λ_ _ e=>K.rel.keep _ _ (R.keep _ _ e)) (K.base.nolimit.keeps K.rel.keep)) R (SW.out ⟨J.base,J.rel.drop⟩) (q▸d _ _ hb) y
 cases f<;>exact key
inductive GJ(M:Model)(A:Around)(R:GenEnd)(Y:Protocol)(a:Addr)(G₀:Array GenState)(jO:OsState)(k:Nat)(s':Shared):Prop
 |mk (gs:GenState) (g:s'.gens=G₀.push gs) (o:s'.os=jO) (go:gs.Goes M A.in1 R Y k (.send .none) (s'.setGen G₀.size .running)) (hI:s'.heap.IsGen a G₀.size) (hL:s'.heap.NoLimit)
theorem EI(K:Ok C.inner A S call n)(T:be C.inner A sc cl env f8)(N:∀c fs,lR G g6 c fs->be C.inner (A.in1.over c fs) xy [] g6 iU)(I:∀gens st,GenState.bare st=true->C.gk (gens.push st)=C.gk gens)
 (h2:A.depth<900){es:List (Str×U)}{m:Nat}{p:jy}(hp:W.ρ.length<=p.k)(D:pu W.F a G₀.size)
 (V:SW C.inner ⟨W.F,W.ρ,L::W.φ,W.aq⟩ ⟨.frame es::z.fs,z.os⟩ s)(H:At sc cl env W)(Z:At xy [] g6 ⟨W.F,W.ρ,L::W.φ,W.aq⟩)(R:g6.scope.isCoroutine=false)
 (M:s.gens=G₀.push (.fresh (.func G.body g6)))(q:(c8 es (iU.St G.init) (λes r=>DN (dJ G iU (bv S sc cl f8.E tg) (aB f8.St b) p m false es) r) z).Holds Q):
 codeAny (model C.prog C.w) A (.forLoop tg (.ref a) b [] env) (λr s'=>match r with
  | .ok f=>nV C W (C.gk G₀) s.os RF Q f s'
  | .error e=>False) s:=by
 have HA:∀F ρ,Ext W.F W.ρ F ρ->At xy [] g6 ⟨F,ρ,L::W.φ,W.aq⟩:=λF ρ X=>Z.to X
 refine codeAny_forLoop_any (GJ (model C.prog C.w) A (wq C.inner W L Q (G₀.push .running) s.os) (wp C.inner W L Q (G₀.push .running) s.os (bv S sc cl f8.E tg) (aB f8.St b) λm=>dJ G iU (bv S sc cl f8.E tg) (aB f8.St b) p m true) a G₀ s.os)
  (λk s' y=> ?_) m ⟨.fresh (.func G.body g6),M,rfl,⟨rfl, ?_⟩,D.is V.rel.keep,V.base.nolimit.keeps V.rel.keep⟩
 ·obtain⟨gs,u,U9,j,hI,hL⟩:=y
  refine mF (Ib (P:=CS C.inner W L Q (G₀.push .running) s.os) K.room.handled hL (Nat.lt_of_lt_of_le h2 (by decide)) hI (u.symm▸Id) j (λv J t hb d=> ?_) λJ h h' hk=> ?_)
  ·refine Ie K T I D H hb d λs₃ g o key i l=> ?_
   cases k with
   |zero=>exact key.elim
   |succ k=>exact⟨k,Nat.lt_succ_self k,t,g,o,key,i,l⟩
  ·obtain⟨jB,x,O,B,dc,Y,tN,c9,c_⟩:=h
   refine mF (wpAny_execs_nil ⟨_,x,O,B,tN,dc,SW.out (W:=⟨O,B,W.φ,W.aq⟩) ⟨Y.base,(Rel.wf Y.rel).keeps hk⟩,rfl, ?_,c_⟩)
   rw[show({J.setGen G₀.size .finished with heap:=h'}:Shared).gens=G₀.push .finished from qH (s:=J) c9]
   exact I _ _ rfl
 ·have Y:SW C.inner ⟨W.F,W.ρ,L::W.φ,W.aq⟩ ⟨.frame es::z.fs,z.os⟩ (s.setGen G₀.size .running):=V
  refine seg_func (seg_execs_cons (seg_wrap ((N _ _ .c0).St _ _ _ _ Y Z|>.out (qO q) λf bp fl kx fh ii ky cv cF rf i6 i7=> ?_)))
  cases ky with
  |mk TU rest TV hk=>cases fl with
   |next=>
    cases rf
    exact seg_execs_cons (st:=G.w1) (rest:=[]) (seg_While λpos=>(KX hp HA R Z.inter N m).2 m _ bp _ (Nat.le_refl _) ⟨TU,⟨rest,TV⟩,fh,ii,cv,cF,hk,Eq.trans i6 (qH M),i7⟩ ⟨_,_,_,rfl⟩)
   |_=>exact hk.elim
end
section
variable{C:Cx}{A:Around}{S:ST}{call:Addr->List U->EM U}{n:Nat}{sc:Scope}{cl:CL}{env g6:Env}{s:Shared}{W:Wh}{z:ES}{N fuel BZ:Nat}{G:GI}{f8:IH}
theorem E3(B:Base C.inner S)(R:ba C.inner n call)(h:∀gens st,GenState.bare st=true->C.gk (gens.push st)=C.gk gens)
 (GA:∀F ρ,gq C.inner F->∃o fd its D,FnAt true F ρ G.f G.fi o fd its D)(hb:G.fi.body=G.body)
 (V:A.handled=none)(h2:A.depth+n+1<=900)(h3:A.units+8*n+8<=9000){tg it:PySem.Expr}{b:List Stmt}{pos:Pos}{kf:Nat->ES->List Nat}{m:Nat}
 (aa:SW C W z s)(H:At sc cl env W):
 Tr C A (exec (.For tg it b [] pos) env) s W RF (Bj S G (bM S call N fuel G.fi.scope []) (bM S call N BZ sc cl) sc cl kf m tg it b z):=by
 refine bP (λ_=>Tr.fail) λhs Q hQ=> ?_
 have w:Ok C.inner A S call n:=⟨B.tok,B.attr,B.ip,B.callee,R,⟨V,by lia,by lia⟩⟩
 have y:=qM (N:=N) w BZ sc cl env
 refine wpAny_For ((y.E it W z s aa.TP H).out (DT.bK hQ) λx s' a z' F' af q X U rx g o=> ?_) (rz hs)
 obtain⟨l,x,c,dl,U_,hx,ho,hd,ha,q⟩:=RR rx q
 obtain⟨m1,m2,_⟩:=B.attr.aU c _ _ ha
 obtain⟨dx,ds,nn,J⟩:=q7 U ho hd hx
 refine Ia U.here.K J.I m1 m2 (wpAny_call ?_)
 obtain⟨o',fd,its,D,T⟩:=GA F' af U.base
 refine bI (P:=λT=>T.Holds Q->_) False.elim (λbs xA q=>codeAny_call_generator (show A.depth<1000 by lia) (U.rel.keep _ _ T.at_) T.data T.xq T.gen T.body (T.code.keeps U.rel.keep) (yx (C:=C.inner) T U (.one (.obj hx)) xA (K:=λcl=>iB cl (ak ())) (qO q) λL TW g6 d7 dR u s₃ cN Y k j fM fN=>⟨Y.base.nolimit.keeps Y.rel.keep, ?_⟩)) q
 cases TW with
 |cons=>exact j.elim
 |nil=>cases (show sj _ Q () d7 from j)with
  |mk U' Ps Z hk=>
   have t:s₃.gens=s.gens:=Eq.trans fM g
   let go:Obj:={cls:= .type "generator",data:= .fields #[.int s₃.gens.size 0, .str fd.name s₃.toks, .str fd.qualname (s₃.toks+1)]}
   obtain⟨M,d,hn,O⟩:=SW.fix (s':={s₃ with gens:=s₃.gens.push (.fresh (.func G.fi.body g6)),toks:=s₃.toks+1+1,heap:=s₃.heap.push go}) Y (c:=go) rfl rfl
   have i:Ext W.F W.ρ M u:=(X.trans cN).trans d
   have v:pu M s₃.heap.objs.size s.gens.size:=by rw[<-t];exact⟨_,_,hn⟩
   refine⟨s₃.heap.objs.size,s.gens.size,rfl,v.is O.rel.keep, ?_⟩
   rw[hb]at O⊢
   refine codeAny_mono (EI (C:=C) (W:=⟨M,u,W.φ,W.aq⟩) (z:=⟨Ps,Z⟩) (G₀:=s.gens) (m:=m) (p:=⟨Z.length,kf Z.length⟩) w y (λc fs hc=>qM (Nf B R V h2 h3 hc) fuel _ [] g6) h (by lia) (Nat.le_of_eq Y.rel.len) v O (H.to i) (k.to d) ?_ (by rw[<-t]) hk) λr jN q=> ?_
   ·rw[show g6.scope=G.fi.scope from k.scope,<-T.scope];exact T.xq
   ·cases r with
    |error e=>exact q.elim
    |ok f=>
     obtain⟨b,qq,i9,i_,q,ij,dF,rf,qr,qt⟩:=q
     exact⟨b,qq,i9,i_,q,i.trans ij,dF,rf,qr,qt.trans (fN.trans o)⟩
end
noncomputable def B1(S:ST)(G:GI)(iU ih:IH)(sc:Scope)(cl:CL)(kf:Nat->ES->List Nat)(m:Nat):Stmt->EM FL
 | .For tg it b [] _=>Bj S G iU ih sc cl kf m tg it b
 |s=>ih.St s
noncomputable def CV(S:ST)(G:GI)(call:Addr->List U->EM U)(N fuel:Nat)(kf:Nat->ES->List Nat)(m:Nat)(sc:Scope)(cl:CL):IH:=⟨(bM S call N fuel sc cl).E,(bM S call N fuel sc cl).T,B1 S G (bM S call N fuel G.fi.scope []) (bM S call N fuel sc cl) sc cl kf m⟩
noncomputable def lS(S:ST)(G:GI)(call:Addr->List U->EM U)(N fuel:Nat)(kf:Nat->ES->List Nat)(m:Nat)(f:Addr)(args:List U):EM U:=bl (S.fn f) λfi=>bl (gW fi args) λbs=>
 bd (eP [] (bd (gl fi.scope.names []) λcl=>bd (storeAll fi.scope cl bs) λ_=>aB (CV S G call N fuel kf m fi.scope cl).St fi.body)) pg
section
variable{C:Cx}{A:Around}{S:ST}{call:Addr->List U->EM U}{n:Nat}{sc:Scope}{cl:CL}{env:Env}{s:Shared}{W:Wh}{z:ES}{N fuel:Nat}{G:GI}{m:Nat}{kf:Nat->ES->List Nat}
theorem Fx(B:Base C S)(V:Base C.inner S)(X:ba C n call)(Y:ba C.inner n call)(Z:∀gens st,GenState.bare st=true->C.gk (gens.push st)=C.gk gens)
 (J:∀F ρ,gq C.inner F->∃o fd its D,FnAt true F ρ G.f G.fi o fd its D)(hb:G.fi.body=G.body):ba C (n+2) (lS S G call N fuel kf m):=by
 intro A hA hd M f args vals W z s U hr
 refine bI Tp.fail λfi hf=>bI Tp.fail λbs K=>yy B (λsc cl env=> ?_) (by lia) U hr hf K
 have I:=qM (N:=N) (B.ok X hA (by lia) (by lia) env) fuel sc cl env
 refine⟨I.E,I.T,λe W z s U H=> ?_⟩
 cases e with
 |For tg it b L pos=>
  cases L with
  |nil=>exact E3 (A:=A.deeper env) V Y Z J hb hA (by show A.depth+1+n+1<=900;lia) (by show A.units+3+8*n+8<=9000;lia) U H
  |cons=>exact I.St _ W z s U H
 |_=>exact I.St _ W z s U H
end
section
variable{P:Params}{F G:Heap}{ρ φ:List Addr}{aq:List (Addr×Obj)}{os fs:List AO}{h:Heap}
theorem Aa{af:List Addr}{a:U}{v:Value}(h:VR F ρ a v):fR a=true->VR F af a v:=by
 induction h using VR.casesOn with
 |obj=>exactλe=>Bool.noConfusion e
 |tup=>exactλe=>Bool.noConfusion e
 |aU=>exactλe=>Bool.noConfusion e
 |ce=>exactλ_=> .ce
 |dat d=>exactλ_=> .dat d
 |cL e=>exactλ_=> .cL e
 |_=>exactλ_=>by constructor
theorem Gu{af:List Addr}{xs:List U}{vs:List Value}(h:az F ρ xs vs):xs.all fR=true->az F af xs vs:=
 h.ind (m:=λxs vs=>xs.all fR=true->az F af xs vs) (λ_=> .nil) λh _ r e=> .cons (Aa h (Bool.and_eq_true_iff.mp e).1) (r (Bool.and_eq_true_iff.mp e).2)
end
section
variable{C:Cx}{n:Nat}{H:Addr->List U->EM U}
theorem KY{g:Addr}{sum:List U->EM U}(V:ba C n H)(h:∀args z Q,(sum args z).Holds Q->(H g args z).Holds Q):ba C n (over g sum H):=by
 intro A a1 a2 a3 f args vals W z s X hr
 refine bP (λq Q Y=> ?_) λq=>V A a1 a2 a3 f args vals W z s X hr
 cases Nat.eq_of_beq_eq_true q
 exact V A a1 a2 a3 _ args vals W z s X hr Q (h _ _ _ Y)
noncomputable def B2(g:Addr)(sum:List U->Option PyData)(H:Addr->List U->EM U):Addr->List U->EM U:=λf args=>bo (Nat.beq f g) (lT (sum args) (λd=>ak (bZ d)) (H f args)) (H f args)
theorem Ih{g:Addr}{sum:List U->Option PyData}(J:ba C n H)(h:∀args d,sum args=some d->args.all fR=true/\(H g args ⟨[],[]⟩).Holds λr=>∃m,cS r.2.os m r.1=some d):ba C n (B2 g sum H):=by
 intro A a1 a2 a3 f args vals W z s Y hr
 have L:=J A a1 a2 a3 f args vals W z s Y hr
 refine bP (λq=>mN (λ_=>L) λd hs Q N=> ?_) λ_=>L
 cases Nat.eq_of_beq_eq_true q
 obtain⟨hp,G⟩:=h args d hs
 obtain⟨I,D,back⟩:=Y.rel.KS
 have E:SW C ⟨W.F,[],[],I++W.aq⟩ ⟨[],[]⟩ s:=⟨Y.base,D⟩
 refine codeAny_mono (J A a1 a2 a3 _ args vals _ _ s E (Gu hr hp) _ G) λr s' p=> ?_
 rcases r with e|(v|_|_|_)<;>try exact p.elim
 obtain⟨b,z',F',af,⟨m,hm⟩,X,V,M,g,o⟩:=p
 obtain⟨Z,k1,k2,O⟩:=V.rel.KT.freeze
 obtain⟨as,rd⟩:=(uW V.rel k1 (λl B a c e1 e2 e3 S=>k2 a c S (λi o e=>gQ e) λp hp e=>V.rel.hC p hp (.o l) B e1 e2 (e▸e3)) m).1 M hm
 have K:∀b o,W.F.get? b=some o->Z.get? b=some o:=λb o e=>k1 _ _ (X.keep b o e)
 exact⟨bZ d,z,Z,W.ρ,N,⟨K,[],(List.append_nil _).symm⟩,⟨V.base.keeps k1,back Z s'.heap K O⟩,VR.bZ rd,g,o⟩
end
noncomputable def p0:Pos:=⟨0,0,0,0⟩
noncomputable def xD:Stmt->PySem.Expr
 | .While t _ _ _=>t
 |_=> .Constant .none 0 p0
noncomputable def s9:Stmt->List Stmt
 | .While _ b _ _=>b
 |_=>[]
noncomputable def xE:Stmt->Pos
 | .While _ _ _ p=>p
 |_=>p0
noncomputable def s_:Stmt->PySem.Expr
 | .Expr e _=>e
 |_=> .Constant .none 0 p0
noncomputable def DO:Stmt->Pos
 | .Expr _ p=>p
 |_=>p0
noncomputable def DP:PySem.Expr->PySem.Expr
 | .Yield (some e) _=>e
 |_=> .Constant .none 0 p0
noncomputable def DQ:PySem.Expr->Pos
 | .Yield _ p=>p
 |_=>p0
noncomputable def nD(b:List Stmt)(i:Nat):Stmt:=b.getD i (.Pass p0)
noncomputable def wr:FI:=br (aM 21 1) []
noncomputable def tc:Stmt:=nD wr.body 1
noncomputable def wt:Stmt:=nD (s9 tc) 0
noncomputable def wu:Stmt:=nD (s9 tc) 1
noncomputable def wv:Stmt:=nD (s9 wt) 0
noncomputable def ww:Stmt:=nD (s9 wu) 0
noncomputable def dk:GI:=⟨268,wr,nD wr.body 0,xD tc,xD wt,xD wu,DP (s_ wv),DP (s_ ww),DQ (s_ wv),DO wv,xE wt,DQ (s_ ww),DO ww,xE wu,xE tc⟩
theorem TY(P:Params):vT (KL P) true 268=some (br (aM 21 1) []):=by kernel_rfl
theorem Ii:dk.fi.body=dk.body:=by kernel_rfl
theorem Ng{C:Cx}(U:C.K=KL C.w.params):∀F ρ,gq C.inner F->∃o fd its D,FnAt true F ρ dk.f dk.fi o fd its D:=λF ρ B=>by
 have h:=TY C.w.params
 rw[<-U]at h
 exact z9 B.K h
structure RS where
 T:Str
 chunk:Str
 size:Int
 off:Int
 lines:Int
 cols:Int
 place:Int
noncomputable def RS.es(r:RS):List (Str×U):=[("reportCharacterErrors", .aU 148 (.obj 3)),("newLines", .obj 4),("dataStream", .obj 6),("chunk", .str r.chunk),("chunkSize", .int r.size),("chunkOffset", .int r.off),("errors", .obj 7),("prevNumLines", .int r.lines),("prevNumCols", .int r.cols),("_bufferedCharacter", .none)]
noncomputable def RS.ts(r:RS):List (Str×U):=[("text", .str r.T),("place", .int r.place)]
noncomputable def aT(a0 a1:AO)(r:RS)(rest:List AO):List AO:=a0::a1:: .dict r.es:: .inst 166 2:: .list [.int 0]:: .dict r.ts:: .inst 73 5:: .list []::rest
noncomputable def E1(m:Nat)(f:Addr)(args:List U):EM U:=rQ S1 3000 40 m f args
theorem ba.up{C:Cx}{n m:Nat}{H:Addr->List U->EM U}(h:ba C n H)(hm:n<=m):ba C m H:=
 λA a1 a2 a3=>h A a1 (by lia) (by lia)
noncomputable def pick(g:Addr)(H1 H2:Addr->List U->EM U):Addr->List U->EM U:=λf args=>bo (Nat.beq f g) (H1 f args) (H2 f args)
theorem oJ{C:Cx}{n:Nat}{g:Addr}{H1 H2:Addr->List U->EM U}(V:ba C n H1)(h2:ba C n H2):ba C n (pick g H1 H2):=
 λA a1 a2 a3 f args vals W z s X hr=>bP (λ_=>V A a1 a2 a3 f args vals W z s X hr) λ_=>h2 A a1 a2 a3 f args vals W z s X hr
noncomputable def iu(g:Addr)(sum:List U->EM U)(dN eY:Addr->List U->EM U):Addr->List U->EM U:=over g sum (pick g (aL S1 dN 3000 40) eY)
theorem AQ{g:Addr}{H1 H2:Addr->List U->EM U}{args:List U}{z:ES}:pick g H1 H2 g args z=H1 g args z:=by
 unfold pick bo
 rw[Nat.beq_refl]
theorem jT{C:Cx}{n:Nat}{g:Addr}{sum:List U->EM U}{dN eY:Addr->List U->EM U}(B:Base C S1)(V:ba C n dN)(h2:ba C (n+1) eY)
 (h:∀args z Q,(sum args z).Holds Q->(aL S1 dN 3000 40 g args z).Holds Q):ba C (n+1) (iu g sum dN eY):=by
 refine KY (oJ (ja B V) h2) λargs z Q W=> ?_
 rw[AQ]
 exact h args z Q W
theorem DT.lD{α β:Type}{P:β->Prop}{t:DT α}{k:α->DT β}:(t.Holds λa=>(k a).Holds P)->(t.bind k).Holds P:=by
 induction t with
 |leaf a=>exact id
 |test b t f U V=>exactλh=>⟨λe=>U (h.1 e),λe=>V (h.2 e)⟩
 |fail=>exact id
noncomputable def finish(T:DT (FL×ES)):DT (U×ES):=(T.bind nw).bind λr=>pg r.1 r.2
theorem jQ{T:DT (FL×ES)}{fl:FL}{es:List (Str×U)}{fs os:List AO}(h:T.eval=some (fl,⟨.frame es::fs,os⟩)){v:U}(hv:fl= .ret v\/(fl= .next/\v= .none)):(finish T).eval=some (v,⟨fs,os⟩):=by
 refine(DT.aC (a:=(fl,⟨fs,os⟩)) (DT.aC h)).trans ?_
 rcases hv with rfl|⟨rfl,rfl⟩<;>rfl
theorem DT.bind_assoc{α β γ:Type}{k:α->DT β}{l:β->DT γ}{t:DT α}:(t.bind k).bind l=t.bind λa=>(k a).bind l:=by
 induction t with
 |leaf a=>rfl
 |test b t f U V=>exact congr (congrArg (DT.test b) U) V
 |fail=>rfl
theorem tZ{f:Stmt->EM FL}{a b:List Stmt}:∀{z:ES},aB f (a++b) z=(aB f a z).bind λr=>l9 (aB f b) r.1 r.2:=by
 induction a with
 |nil=>exactλ{z}=>rfl
 |cons s a ih=>
  intro z
  refine Eq.trans ?_ DT.bind_assoc.symm
  refine congrArg (DT.bind (f s z)) (funext λr=> ?_)
  obtain⟨x,z'⟩:=r
  cases x with
  |next=>exact ih
  |_=>rfl
noncomputable def cH:List Nat:=[0,9,10,12,233]++(List.range 95).map (·+32)
noncomputable def ng(c:Nat):Bool:=cH.any (Nat.beq c)
theorem ug{c:Nat}(h:ng c=true):c∈cH:=by
 obtain⟨x,V,h2⟩:=List.any_eq_true.mp h
 rw[Nat.eq_of_beq_eq_true h2];exact V
noncomputable def c7(x:Str):Bool:=x.cps.toList.all ng
theorem Ab{asg:U->EM Unit}{b:EM FL}{xs:List U}(st:Nat->ES)(h:∀i x,xs[i]?=some x->∃W r,(asg x (st i)).eval=some ((),W)/\(r= .next\/r= .cont)/\(b W).eval=some (r,st (i+1))):
 ∀n i,xs.length<n+i->i<=xs.length->(cQ asg b (.fixed xs) n i (st i)).eval=some (FL.next,st xs.length)
 |0,i,V,h2=>by lia
 |n+1,i,V,h2=>by
  have key:∀o,xs[i]?=o->((match o with
   |none=>ak .next
   |some x=>bd (asg x) λ_=>bd b (fu (cQ asg b (.fixed xs) n (i+1))):EM FL) (st i)).eval=some (FL.next,st xs.length):=by
   intro o ho
   cases o with
   |none=>
    have:=List.getElem?_eq_none_iff.mp ho
    have:i=xs.length:=by lia
    subst this;rfl
   |some x=>
    obtain⟨W,r,k1,k2,X⟩:=h i x ho
    have Y:=(List.getElem?_eq_some_iff.mp ho).1
    dsimp only[bd]
    rw[DT.aC k1,DT.aC X]
    have:=Ab st h n (i+1) (by lia) (by lia)
    rcases k2 with rfl|rfl<;>exact this
  exact key _ rfl
noncomputable def u2:Stmt->Option (PySem.Expr×PySem.Expr×List Stmt)
 | .For tg it b [] _=>some (tg,it,b)
 |_=>none
noncomputable def aH(b:List Stmt)(i:Nat):Stmt:=b.getD i (.Pass p0)
noncomputable def aW(f:Addr):FI:=(fa f jW).getD ⟨[],[],⟨.function,[],false,false,[]⟩,[]⟩
noncomputable def E0:PySem.Expr:= .Constant .none 0 p0
noncomputable def ni(s:Stmt):PySem.Expr:=match u2 s with|some p=>p.1|none=>E0
noncomputable def vW(s:Stmt):PySem.Expr:=match u2 s with|some p=>p.2.1|none=>E0
noncomputable def dY(s:Stmt):List Stmt:=match u2 s with|some p=>p.2.2|none=>[]
noncomputable def H0:Addr->List U->EM U:=rQ S1 3000 40 6
noncomputable abbrev bf(H:Addr->List U->EM U)(n:Nat)(f:Addr)(cl:CL):IH:=bM S1 H 3000 n (aW f).scope cl
noncomputable def CW:Stmt:=aH (aW 148).body 0
noncomputable def rA:U->EM Unit:=bv S1 (aW 148).scope [] (bf H0 39 148 []).E (ni CW)
noncomputable def wx:EM FL:=aB (bf H0 39 148 []).St (dY CW)
theorem Pt(d:Str)(fs os:List AO):aL S1 H0 3000 40 148 [.obj 3, .str d] ⟨fs,os⟩=
 finish ((cQ rA wx (.fixed (chars d)) 3000 0 ⟨.frame [("self", .obj 3),("data", .str d)]::fs,os⟩).bind λr=>l9 (ak FL.next) r.1 r.2):=by kernel_rfl
theorem Nh(d:Str)(fs os:List AO):cH.map (λc=>(rA (.str ⟨#[c]⟩) ⟨.frame [("self", .obj 3),("data", .str d)]::fs,os⟩).eval)=
 cH.map (λc=>some ((),(⟨.frame [("self", .obj 3),("data", .str d),("c", .str ⟨#[c]⟩)]::fs,os⟩:ES))):=by kernel_rfl
theorem Ni(d:Str)(a:U)(fs os:List AO):cH.map (λc=>(rA (.str ⟨#[c]⟩) ⟨.frame [("self", .obj 3),("data", .str d),("c",a)]::fs,os⟩).eval)=
 cH.map (λc=>some ((),(⟨.frame [("self", .obj 3),("data", .str d),("c", .str ⟨#[c]⟩)]::fs,os⟩:ES))):=by kernel_rfl
theorem Nj(d:Str)(fs os:List AO):cH.map (λc=>(wx ⟨.frame [("self", .obj 3),("data", .str d),("c", .str ⟨#[c]⟩)]::fs,os⟩).eval)=
 cH.map (λc=>some (FL.next,(⟨.frame [("self", .obj 3),("data", .str d),("c", .str ⟨#[c]⟩)]::fs,os⟩:ES))):=by kernel_rfl
theorem yU{x:Str}{i:Nat}{a:U}(h:(chars x)[i]?=some a):∃c,x.cps.toList[i]?=some c/\a= .str ⟨#[c]⟩:=by
 unfold chars at h
 rw[List.getElem?_map]at h
 cases q:x.cps.toList[i]?with
 |none=>rw[q]at h;cases h
 |some c=>rw[q]at h;cases h;exact⟨c,rfl,rfl⟩
theorem Ij{d:Str}(hd:c7 d=true)(hl:d.length<3000)(fs os:List AO):(aL S1 H0 3000 40 148 [.obj 3, .str d] ⟨fs,os⟩).eval=some (.none,⟨fs,os⟩):=by
 let fr:Nat->List (Str×U):=λi=>match i with
  |0=>[("self", .obj 3),("data", .str d)]
  |i+1=>[("self", .obj 3),("data", .str d),("c", .str ⟨#[d.cps.toList.getD i 0]⟩)]
 let st:Nat->ES:=λi=>⟨.frame (fr i)::fs,os⟩
 have run:=Ab (asg:=rA) (b:=wx) (xs:=chars d) st (λi x hx=>by
  obtain⟨c,V,rfl⟩:=yU hx
  have good:c∈cH:=ug (List.all_eq_true.mp hd c (List.mem_of_getElem? V))
  refine⟨⟨.frame [("self", .obj 3),("data", .str d),("c", .str ⟨#[c]⟩)]::fs,os⟩, .next, ?_, .inl rfl, ?_⟩
  ·cases i with
   |zero=>exact fQ (Nh d fs os) c good
   |succ i=>exact fQ (Ni d _ fs os) c good
  ·have:=fQ (Nj d fs os) c good
   rw[this]
   have e:d.cps.toList.getD i 0=c:=by simp[List.getD,V]
   show _=some (FL.next,(⟨.frame [("self", .obj 3),("data", .str d),("c", .str ⟨#[d.cps.toList.getD i 0]⟩)]::fs,os⟩:ES))
   rw[e]) 3000 0 (by unfold chars;rw[List.length_map];show d.cps.toList.length<_;rw[Array.length_toList];exact hl) (Nat.zero_le _)
 rw[Pt]
 generalize hn:(chars d).length=m at run
 have fin:∃es,st m=⟨.frame es::fs,os⟩:=⟨_,rfl⟩
 obtain⟨es,he⟩:=fin
 rw[he]at run
 refine jQ (fl:= .next) (es:=es) ?_ (.inr ⟨rfl,rfl⟩)
 refine f9 ?_ run;rfl
section
variable{α:Type}{n:Nat}{v:U}{args:List U}{z:ES}{Q:α×ES->Prop}
noncomputable def kT(n:Nat)(v:U):Bool:=U.casesOn v false (λ_=>false) (λ_=>false) (λ_=>false) (λ_=>false) (λ_=>false) (λ_=>false) (λl=>Nat.beq l n) (λ_=>false) (λ_=>false) (λ_ _=>false) (λ_ _=>false) false
theorem u3(h:kT n v=true):v= .obj n:=l8 (by cases v<;>first|exact trivial|exact zR (P:=λl=>U.obj l= .obj n) rfl) h
noncomputable def me(n:Nat)(args:List U)(k:List U->EM α):EM α:=λz=>List.casesOn args .fail λa r=>cond (kT n a) (k r z) .fail
theorem mR{k:List U->EM α}(h:(me n args k z).Holds Q):∃r,args= .obj n::r/\(k r z).Holds Q:=by
 cases args with
 |nil=>exact h.elim
 |cons a r=>
  have h:(cond (kT n a) (k r z) .fail).Holds Q:=h
  cases q:kT n a with
  |false=>rw[q]at h;exact h.elim
  |true=>rw[q]at h;rw[u3 q];exact⟨r,rfl,h⟩
theorem u5{m:EM α}(h:(iB args m z).Holds Q):args=[]/\(m z).Holds Q:=by
 cases args with
 |nil=>exact⟨rfl,h⟩
 |cons a r=>exact h.elim
theorem re{f:U->EM α}(h:(kQ args f z).Holds Q):∃a,args=[a]/\(f a z).Holds Q:=by
 cases args with
 |nil=>exact h.elim
 |cons a r=>obtain⟨e,h⟩:=u5 h;exact⟨a,by rw[e],h⟩
theorem B3{f:Str->EM α}(h:(gS v f z).Holds Q):∃l,v= .str l/\(f l z).Holds Q:=by
 cases v<;>first|exact h.elim|exact⟨_,rfl,h⟩
theorem vX{f:Int->EM α}(h:(gI v f z).Holds Q):∃l,v= .int l/\(f l z).Holds Q:=by
 cases v<;>first|exact h.elim|exact⟨_,rfl,h⟩
end
noncomputable def wy(args:List U):EM U:=me 3 args λr=>kQ r λa=>gS a λd z=> .test (c7 d&&Nat.blt d.length 3000) (.leaf (.none,z)) .fail
theorem KZ(args:List U)(z:ES)(Q:U×ES->Prop)(h:(wy args z).Holds Q):(aL S1 H0 3000 40 148 args z).Holds Q:=by
 obtain⟨r,rfl,h⟩:=mR h
 obtain⟨a,rfl,h⟩:=re h
 obtain⟨d,rfl,h⟩:=B3 h
 cases q:c7 d&&Nat.blt d.length 3000 with
 |false=>exact(h.2 q).elim
 |true=>
  have V:=h.1 q
  rw[Bool.and_eq_true]at q
  exact DT.du (Ij q.1 (Nat.blt_eq.mp q.2) z.fs z.os) V
noncomputable def H1:Addr->List U->EM U:=iu 148 wy H0 H0
noncomputable def keysOk(es:List (Str×U))(ks:List Str):Bool:=match es,ks with
 |[],[]=>true
 |(x,_)::r,k::t=>sEq x k&&keysOk r t
 |_,_=>false
theorem yV{es:List (Str×U)}:∀{ks:List Str},keysOk es ks=true->es.map (·.1)=ks:=by
 induction es with
 |nil=>intro ks h;cases ks with
  |nil=>rfl
  |cons=>cases h
 |cons p r ih=>intro ks h;cases ks with
  |nil=>cases h
  |cons k t=>
   have h:(sEq p.1 k&&keysOk r t)=true:=h
   obtain⟨V,h2⟩:=Bool.and_eq_true_iff.mp h
   rw[List.map_cons,ih h2,sEq_iff.mp V]
noncomputable def Nk:List Str:=["reportCharacterErrors","newLines","dataStream","chunk","chunkSize","chunkOffset","errors","prevNumLines","prevNumCols","_bufferedCharacter"]
noncomputable def Nl:List Str:=["text","place"]
inductive Tg where
 |m|o (n:Nat)|s|i|n
noncomputable def sn:Tg->U->Bool
 | .m, .aU f (.obj l)=>Nat.beq f 148&&Nat.beq l 3
 | .o n, .obj l=>Nat.beq l n
 | .s, .str _=>true
 | .i, .int _=>true
 | .n, .none=>true
 |_,_=>false
noncomputable def wz:U->Str
 | .str x=>x
 |_=>Str.empty
noncomputable def j5:U->Int
 | .int x=>x
 |_=>0
noncomputable def td:Tg->U->U
 | .m,_=> .aU 148 (.obj 3)
 | .o n,_=> .obj n
 | .s,v=> .str (wz v)
 | .i,v=> .int (j5 v)
 | .n,_=> .none
theorem Gv(t:Tg)(v:U):cond (sn t v) (v=td t v) True:=by
 cases t with
 |m=>
  cases v with
  |aU f x=>
   cases x with
   |obj l=>exact oW λh=>by rw[Nat.eq_of_beq_eq_true (Bool.and_eq_true_iff.mp h).1,Nat.eq_of_beq_eq_true (Bool.and_eq_true_iff.mp h).2];rfl
   |_=>exact trivial
  |_=>exact trivial
 |o n=>
  cases v with
  |obj l=>exact zR (P:=λl=>U.obj l= .obj n) rfl
  |_=>exact trivial
 |_=>cases v<;>first|exact trivial|exact rfl
theorem K3{t:Tg}{v:U}(h:sn t v=true):v=td t v:=l8 (Gv t v) h
noncomputable def nE:List Tg->List U->Bool
 |[],[]=>true
 |t::ts,v::vs=>sn t v&&nE ts vs
 |_,_=>false
noncomputable def th:List Tg->List U->List U
 |[],_=>[]
 |t::ts,vs=>td t (vs.headD .none)::th ts vs.tail
theorem u6{ts:List Tg}:∀{vs:List U},nE ts vs=true->vs=th ts vs:=by
 induction ts with
 |nil=>intro vs h;cases vs with
  |nil=>rfl
  |cons=>cases h
 |cons t ts ih=>intro vs h;cases vs with
  |nil=>cases h
  |cons v vs=>
   have h:(sn t v&&nE ts vs)=true:=h
   obtain⟨V,h2⟩:=Bool.and_eq_true_iff.mp h
   show v::vs=td t v::th ts vs
   rw[<-K3 V,<-ih h2]
noncomputable def p9{α:Type}:Nat->List α->List α
 |0,l=>l
 |n+1,l=>p9 n l.tail
noncomputable def nv(l:List (Str×U))(i:Nat):U:=(p9 i (l.map (·.2))).headD .none
noncomputable def DR(es ts:List (Str×U)):Option RS:=cond (keysOk es Nk&&(keysOk ts Nl&&(nE [.m, .o 4, .o 6, .s, .i, .i, .o 7, .i, .i, .n] (es.map (·.2))&&nE [.s, .i] (ts.map (·.2)))))
 (some ⟨wz (nv ts 0),wz (nv es 3),j5 (nv es 4),j5 (nv es 5),j5 (nv es 7),j5 (nv es 8),j5 (nv ts 1)⟩) none
theorem Ac{a b:List (Str×U)}(V:a.map (·.1)=b.map (·.1))(h2:a.map (·.2)=b.map (·.2)):a=b:=by
 rw[<-List.zip_unzip a,<-List.zip_unzip b,List.unzip_eq_map,List.unzip_eq_map,V,h2]
theorem Gw{α:Type}{c:Bool}{a b:α}(h:cond c (some a) none=some b):c=true/\a=b:=by
 cases c with
 |false=>cases h
 |true=>exact⟨rfl,Option.some.inj h⟩
theorem Nm{es ts:List (Str×U)}{r:RS}(h:DR es ts=some r):es=r.es/\ts=r.ts:=by
 obtain⟨hk,rfl⟩:=Gw h
 simp only[Bool.and_eq_true]at hk
 exact⟨Ac (yV hk.1) (u6 hk.2.2.1),Ac (yV hk.2.1) (u6 hk.2.2.2)⟩
inductive Og where
 |a|d|i (c l:Nat)|l (ts:List Tg)
noncomputable def sq:Og->AO->Bool
 | .a,_=>true
 | .d, .dict _=>true
 | .i c l, .inst x y=>Nat.beq x c&&Nat.beq y l
 | .l ts, .list xs=>nE ts xs
 |_,_=>false
noncomputable def px:AO->List (Str×U)
 | .dict es=>es
 |_=>[]
noncomputable def sr:AO->List U
 | .list es=>es
 |_=>[]
noncomputable def ti:Og->AO->AO
 | .a,o=>o
 | .d,o=> .dict (px o)
 | .i c l,_=> .inst c l
 | .l ts,o=> .list (th ts (sr o))
theorem Gx(t:Og)(v:AO):cond (sq t v) (v=ti t v) True:=by
 cases t with
 |i c l=>
  cases v with
  |inst x y=>exact oW λh=>by rw[Nat.eq_of_beq_eq_true (Bool.and_eq_true_iff.mp h).1,Nat.eq_of_beq_eq_true (Bool.and_eq_true_iff.mp h).2];rfl
  |_=>exact trivial
 |l ts=>
  cases v with
  |list xs=>exact oW λh=>congrArg AO.list (u6 h)
  |_=>exact trivial
 |a=>exact rfl
 |d=>cases v<;>first|exact trivial|exact rfl
theorem K4{t:Og}{v:AO}(h:sq t v=true):v=ti t v:=l8 (Gx t v) h
noncomputable def o4:List Og->List AO->Bool
 |[],_=>true
 |t::ts,v::vs=>sq t v&&o4 ts vs
 |_,_=>false
noncomputable def wA:List Og->List AO->List AO
 |[],vs=>vs
 |t::ts,vs=>ti t (vs.headD .any)::wA ts vs.tail
theorem Ik{ts:List Og}:∀{vs:List AO},o4 ts vs=true->vs=wA ts vs:=by
 induction ts with
 |nil=>intro vs h;rfl
 |cons t ts ih=>intro vs h;cases vs with
  |nil=>cases h
  |cons v vs=>
   have h:(sq t v&&o4 ts vs)=true:=h
   obtain⟨V,h2⟩:=Bool.and_eq_true_iff.mp h
   show v::vs=ti t v::wA ts vs
   rw[<-K4 V,<-ih h2]
noncomputable def no(os:List AO)(i:Nat):AO:=(p9 i os).headD .any
noncomputable def tj(z:ES):Option RS:=cond (o4 [.a, .a, .d, .i 166 2, .l [.i], .d, .i 73 5, .l []] z.os&&decide (j5 ((sr (no z.os 4)).headD .none)=0)) (DR (px (no z.os 2)) (px (no z.os 5))) none
theorem Nn{z:ES}{r:RS}(h:tj z=some r):∃a0 a1 rest,z.os=aT a0 a1 r rest:=by
 unfold tj at h
 cases hk:o4 [.a, .a, .d, .i 166 2, .l [.i], .d, .i 73 5, .l []] z.os&&decide (j5 ((sr (no z.os 4)).headD .none)=0)with
 |true=>
  rw[hk]at h
  obtain⟨V,h2⟩:=Bool.and_eq_true_iff.mp hk
  obtain⟨e1,e2⟩:=Nm h
  refine⟨no z.os 0,no z.os 1,p9 8 z.os,(Ik V).trans ?_⟩
  show[no z.os 0,no z.os 1, .dict (px (no z.os 2)), .inst 166 2, .list [.int (j5 ((sr (no z.os 4)).headD .none))], .dict (px (no z.os 5)), .inst 73 5, .list []]++p9 8 z.os=_
  rw[e1,e2,of_decide_eq_true h2];rfl
 |false=>rw[hk]at h;cases h
noncomputable def nG(r:RS)(os:List AO):List AO:=match os with
 |a0::a1::_::a3::a4::_::rest=>a0::a1:: .dict r.es::a3::a4:: .dict r.ts::rest
 |os=>os
noncomputable def kj(args:List U)(k:RS->ES->DT (U×ES)):EM U:=λz=>match tj z with
 |some r=>k r z
 |none=> .fail
noncomputable def jC:Str:=Str.ofString "\n"
noncomputable def kl(r:RS)(o:Int):Nat:=min (fromIndex r.chunk.length o) r.chunk.length
noncomputable def gB(r:RS)(o:Int):Int:=r.lines+pd r.chunk jC (fromIndex r.chunk.length 0) (kl r o)
noncomputable def gE(r:RS)(o:Int):Int:=if gR r.chunk jC (fromIndex r.chunk.length 0) (kl r o)=-1 then r.cols+o else o-(gR r.chunk jC (fromIndex r.chunk.length 0) (kl r o)+1)
theorem Pu(fs:List AO)(a0 a1:AO)(r:RS)(o:Int)(rest:List AO):(aL S1 H0 3000 40 119 [.obj 3, .int o] ⟨fs,aT a0 a1 r rest⟩).run [true,true]=
 some ([decide (gR r.chunk jC (fromIndex r.chunk.length 0) (kl r o)=-1),true],(.tup [.int (gB r o), .int (r.cols+o)],⟨fs,aT a0 a1 r rest⟩)):=by kernel_rfl
theorem Pv(fs:List AO)(a0 a1:AO)(r:RS)(o:Int)(rest:List AO):(aL S1 H0 3000 40 119 [.obj 3, .int o] ⟨fs,aT a0 a1 r rest⟩).run [false,true]=
 some ([decide (gR r.chunk jC (fromIndex r.chunk.length 0) (kl r o)=-1),true],(.tup [.int (gB r o), .int (o-(gR r.chunk jC (fromIndex r.chunk.length 0) (kl r o)+1))],⟨fs,aT a0 a1 r rest⟩)):=by kernel_rfl
theorem Il(fs:List AO)(a0 a1:AO)(r:RS)(o:Int)(rest:List AO):(aL S1 H0 3000 40 119 [.obj 3, .int o] ⟨fs,aT a0 a1 r rest⟩).eval=some (.tup [.int (gB r o), .int (gE r o)],⟨fs,aT a0 a1 r rest⟩):=by
 by_cases h:gR r.chunk jC (fromIndex r.chunk.length 0) (kl r o)=-1
 ·rw[DT.aQ (Pu fs a0 a1 r o rest) (by rw[decide_eq_true h])]
  unfold gE;rw[if_pos h]
 ·rw[DT.aQ (Pv fs a0 a1 r o rest) (by rw[decide_eq_false h])]
  unfold gE;rw[if_neg h]
noncomputable def CX(args:List U):EM U:=me 3 args λr=>kQ r λa=>gI a λo=>kj args λr z=> .leaf (.tup [.int (gB r o), .int (gE r o)],z)
theorem lG{args:List U}{k:RS->ES->DT (U×ES)}{z:ES}{Q:U×ES->Prop}(h:(kj args k z).Holds Q):∃r a0 a1 rest,z=⟨z.fs,aT a0 a1 r rest⟩/\(k r ⟨z.fs,aT a0 a1 r rest⟩).Holds Q:=by
 unfold kj at h
 cases q:tj z with
 |none=>rw[q]at h;exact h.elim
 |some r=>
  rw[q]at h
  obtain⟨a0,a1,rest,e⟩:=Nn q
  obtain⟨fs,os⟩:=z
  dsimp only at e
  subst e
  exact⟨r,a0,a1,rest,rfl,h⟩
theorem K5(args:List U)(z:ES)(Q:U×ES->Prop)(h:(CX args z).Holds Q):(aL S1 H0 3000 40 119 args z).Holds Q:=by
 obtain⟨r,rfl,h⟩:=mR h
 obtain⟨a,rfl,h⟩:=re h
 obtain⟨o,rfl,h⟩:=vX h
 obtain⟨r,a0,a1,rest,e,hk⟩:=lG h
 rw[e]
 have hk:Q (.tup [.int (gB r o), .int (gE r o)],⟨z.fs,aT a0 a1 r rest⟩):=hk
 have he:=Il z.fs a0 a1 r o rest
 generalize aL S1 H0 3000 40 119 [.obj 3, .int o] ⟨z.fs,aT a0 a1 r rest⟩=t at he⊢
 exact DT.du he hk
noncomputable def ap(r:RS)(o:Int):Str:=aV r.T (if r.place<0 then(r.place+(r.T.length:Nat)).toNat else min r.place.toNat r.T.length) (if r.place+o<0 then(r.place+o+(r.T.length:Nat)).toNat else min (r.place+o).toNat r.T.length)
theorem No(fs:List AO)(a0 a1:AO)(r:RS)(o:Int)(rest:List AO):(aL S1 H0 3000 40 70 [.obj 6, .int o] ⟨fs,aT a0 a1 r rest⟩).run [true,true]=
 some ([fits r.T.length,fits (ap r o).length],(.str (ap r o),⟨fs,aT a0 a1 {r with place:=r.place+((ap r o).length:Nat)} rest⟩)):=by kernel_rfl
noncomputable def B4(args:List U):EM U:=me 6 args λr=>kQ r λa=>gI a λo=>kj args λr z=> .test (fits r.T.length&&fits (ap r o).length) (.leaf (.str (ap r o),⟨z.fs,nG {r with place:=r.place+((ap r o).length:Nat)} z.os⟩)) .fail
theorem Im(args:List U)(z:ES)(Q:U×ES->Prop)(h:(B4 args z).Holds Q):(aL S1 H0 3000 40 70 args z).Holds Q:=by
 obtain⟨r,rfl,h⟩:=mR h
 obtain⟨a,rfl,h⟩:=re h
 obtain⟨o,rfl,h⟩:=vX h
 obtain⟨r,a0,a1,rest,e,hk⟩:=lG h
 rw[e]
 cases q:fits r.T.length&&fits (ap r o).length with
 |false=>exact(hk.2 q).elim
 |true=>
  have V:=hk.1 q
  rw[Bool.and_eq_true]at q
  exact DT.du (DT.aQ (No _ _ _ _ _ _) (by rw[q.1,q.2])) V
noncomputable def H2:Addr->List U->EM U:=iu 70 B4 H0 (iu 119 CX H0 (iu 148 wy H0 H0))
theorem vY{C:Cx}(B:Base C S1):ba C 7 H2:=jT B (og B 6) (jT B (og B 6) (jT B (og B 6) ((og B 6).up (by lia)) KZ) K5) Im
theorem AS{x sub:Str}{lo hi limit:Nat}(h:∀i,i+sub.length<=hi->Builtin.Str.subAt x sub i=true->False):Builtin.Str.occurrences x sub lo hi limit=[]:=by
 rw[StrLaws.occ_eq]
 have key:∀(l:List Nat) (st:Array Nat×Nat),(forIn l st (StrLaws.occBody x sub hi limit)).run=st:=by
  intro l
  induction l with
  |nil=>intro st;rfl
  |cons a l ih=>
   intro st
   rw[List.forIn_cons]
   unfold StrLaws.occBody
   rw[if_neg (λq=>h a q.1.2 q.2)]
   exact ih st
 rw[key]
theorem yW{x sub:Str}{c:Nat}{r:List Nat}{i:Nat}(hs:sub.cps.toList=c::r)(V:i+sub.length<=x.length)(h:Builtin.Str.subAt x sub i=true):c∈x.cps.toList:=by
 rw[StrLaws.subAt_eq]at h
 rw[hs]at h
 have h:=beq_iff_eq.mp h
 have:(List.take sub.length (List.drop i x.cps.toList))[0]?=some c:=by rw[h];rfl
 rw[List.getElem?_take]at this
 split at this
 ·rw[List.getElem?_drop]at this
  exact List.mem_of_getElem? this
 ·cases this
theorem CY{d:Str}(hd:c7 d=true):(13:Nat)∉d.cps.toList:=λh=>by
 have:=List.all_eq_true.mp hd 13 h
 revert this;decide
theorem rY{d:Str}(hd:c7 d=true)(limit:Nat):(Builtin.Str.occurrences d (Str.ofString "\r") 0 d.length limit).isEmpty=true/\(Builtin.Str.occurrences d (Str.ofString "\r\n") 0 d.length limit).isEmpty=true:=by
 constructor
 ·rw[AS λi V h2=>CY hd (yW (c:=13) (r:=[]) rfl V h2)];rfl
 ·rw[AS λi V h2=>CY hd (yW (c:=13) (r:=[10]) rfl V h2)];rfl
theorem yz{c:Nat}(h:ng c=true):c≠13/\c<55296:=by
 have:=ug h
 have key:∀x∈cH,x≠13/\x<55296:=by decide
 exact key c this
noncomputable def bc(r:RS)(k:Int):RS:={T:=r.T,chunk:=ap r k,size:=((ap r k).length:Nat),off:=0,lines:=gB r r.size,cols:=gE r r.size,place:=r.place+((ap r k).length:Nat)}
noncomputable def ji(d:Str):Int:=(((Txt.charAt d (-1)).getD 0:Nat):Int)
theorem Np(fs:List AO)(a0 a1:AO)(r:RS)(o:Int)(rest:List AO):(aL S1 H2 3000 40 141 [.obj 3, .int o] ⟨fs,aT a0 a1 r rest⟩).run [false,true,false,true,false,true,true,true,false,false,false,false,true,true,true,true,true]=
 some ([false,fits r.T.length&&fits (ap r o).length,false,fits (ap r o).length, !decide ((ap r o).length≠0),fits (ap r o).length,decide (1<((ap r o).length:Int)),
  fits (ap r o).length&&cy (-1) (ap r o).length,decide (ji (ap r o)=13),decide (55296<=ji (ap r o)),false,false,true,c7 (ap r o)&&Nat.blt (ap r o).length 3000,
  (Builtin.Str.occurrences (ap r o) (Str.ofString "\r\n") 0 (ap r o).length ((ap r o).length+1)).isEmpty,(Builtin.Str.occurrences (ap r o) (Str.ofString "\r") 0 (ap r o).length ((ap r o).length+1)).isEmpty,fits (ap r o).length],
  (.bool true,⟨fs,aT a0 a1 (bc r o) rest⟩)):=by kernel_rfl
theorem Nq(fs:List AO)(a0 a1:AO)(r:RS)(o:Int)(rest:List AO):(aL S1 H2 3000 40 141 [.obj 3, .int o] ⟨fs,aT a0 a1 r rest⟩).run [false,true,false,true,false,true,false,true,true,true,true,true]=
 some ([false,fits r.T.length&&fits (ap r o).length,false,fits (ap r o).length, !decide ((ap r o).length≠0),fits (ap r o).length,decide (1<((ap r o).length:Int)),
  true,c7 (ap r o)&&Nat.blt (ap r o).length 3000,
  (Builtin.Str.occurrences (ap r o) (Str.ofString "\r\n") 0 (ap r o).length ((ap r o).length+1)).isEmpty,(Builtin.Str.occurrences (ap r o) (Str.ofString "\r") 0 (ap r o).length ((ap r o).length+1)).isEmpty,fits (ap r o).length],
  (.bool true,⟨fs,aT a0 a1 (bc r o) rest⟩)):=by kernel_rfl
noncomputable def mT(r:RS)(k:Int):RS:={T:=r.T,chunk:=Str.ofString "",size:=0,off:=0,lines:=gB r r.size,cols:=gE r r.size,place:=r.place+((ap r k).length:Nat)}
theorem Nr(fs:List AO)(a0 a1:AO)(r:RS)(o:Int)(rest:List AO):(aL S1 H2 3000 40 141 [.obj 3, .int o] ⟨fs,aT a0 a1 r rest⟩).run [false,true,false,true,true]=
 some ([false,fits r.T.length&&fits (ap r o).length,false,fits (ap r o).length, !decide ((ap r o).length≠0)],(.bool false,⟨fs,aT a0 a1 (mT r o) rest⟩)):=by kernel_rfl
theorem AT{d:Str}(h:d.length=0):d=Str.ofString "":=by
 cases d with
 |mk c=>
  have:c=#[]:=Array.eq_empty_of_size_eq_zero h
  subst this;rfl
theorem Gy(fs:List AO)(a0 a1:AO)(r:RS)(o:Int)(rest:List AO)(V:fits r.T.length=true)(h2:c7 (ap r o)=true)(h3:(ap r o).length<3000):
 (aL S1 H2 3000 40 141 [.obj 3, .int o] ⟨fs,aT a0 a1 r rest⟩).eval=some (.bool (decide ((ap r o).length≠0)),⟨fs,aT a0 a1 (bc r o) rest⟩):=by
 have f2:fits (ap r o).length=true:=by unfold fits;exact Nat.ble_eq_true_of_le (by lia)
 have b3:Nat.blt (ap r o).length 3000=true:=Nat.blt_eq.mpr h3
 have U:=(rY h2 ((ap r o).length+1)).1
 have W:=(rY h2 ((ap r o).length+1)).2
 rcases Nat.lt_or_ge 1 (ap r o).length with hl|hl
 ·have lc:ji (ap r o)≠13/\¬(55296<=ji (ap r o)):=by
   unfold ji
   cases q:Txt.charAt (ap r o) (-1)with
   |none=>simp
   |some c=>
    have hm:c∈(ap r o).cps.toList:=by
     unfold Txt.charAt at q
     obtain⟨j,_,X⟩:=Option.bind_eq_some_iff.mp q
     exact List.mem_of_getElem? (i:=j) (by simpa using X)
    have:=yz (List.all_eq_true.mp h2 c hm)
    constructor
    ·intro e
     have e:((c:Nat):Int)=13:=e
     exact this.1 (by lia)
    ·intro e
     have e:(55296:Int)<=((c:Nat):Int):=e
     lia
  rw[DT.aQ (Np fs a0 a1 r o rest) (by
   rw[V,f2,b3,h2,U,W,decide_eq_false lc.1,decide_eq_false lc.2,decide_eq_true (show(ap r o).length≠0 by lia),decide_eq_true (show(1:Int)<((ap r o).length:Int) by lia)]
   have:cy (-1) (ap r o).length=true:=by
    unfold cy
    rw[if_pos (by decide)]
    exact decide_eq_true (by lia)
   rw[this];rfl)]
  rw[decide_eq_true (show(ap r o).length≠0 by lia)]
 ·rcases Nat.eq_zero_or_pos (ap r o).length with h0|h0
  ·rw[DT.aQ (Nr fs a0 a1 r o rest) (by
    rw[V,f2,decide_eq_false (show¬(ap r o).length≠0 by lia)];rfl)]
   rw[decide_eq_false (show¬(ap r o).length≠0 by lia)]
   have e:mT r o=bc r o:=by
    unfold mT bc
    rw[AT h0];rfl
   rw[e]
  ·rw[DT.aQ (Nq fs a0 a1 r o rest) (by
    rw[V,f2,b3,h2,U,W,decide_eq_true (show(ap r o).length≠0 by lia),decide_eq_false (show¬(1:Int)<((ap r o).length:Int) by lia)];rfl)]
   rw[decide_eq_true (show(ap r o).length≠0 by lia)]
theorem K6(fs:List AO)(a0 a1:AO)(r:RS)(rest:List AO):(aL S1 H2 3000 40 141 [.obj 3] ⟨fs,aT a0 a1 r rest⟩).run [true,true,false,true,false,true,true,true,false,false,false,false,true,true,true,true,true]=
 some ([true,fits r.T.length&&fits (ap r 10240).length,false,fits (ap r 10240).length, !decide ((ap r 10240).length≠0),fits (ap r 10240).length,decide (1<((ap r 10240).length:Int)),
  fits (ap r 10240).length&&cy (-1) (ap r 10240).length,decide (ji (ap r 10240)=13),decide (55296<=ji (ap r 10240)),false,false,true,c7 (ap r 10240)&&Nat.blt (ap r 10240).length 3000,
  (Builtin.Str.occurrences (ap r 10240) (Str.ofString "\r\n") 0 (ap r 10240).length ((ap r 10240).length+1)).isEmpty,(Builtin.Str.occurrences (ap r 10240) (Str.ofString "\r") 0 (ap r 10240).length ((ap r 10240).length+1)).isEmpty,fits (ap r 10240).length],
  (.bool true,⟨fs,aT a0 a1 (bc r 10240) rest⟩)):=by kernel_rfl
theorem K7(fs:List AO)(a0 a1:AO)(r:RS)(rest:List AO):(aL S1 H2 3000 40 141 [.obj 3] ⟨fs,aT a0 a1 r rest⟩).run [true,true,false,true,false,true,false,true,true,true,true,true]=
 some ([true,fits r.T.length&&fits (ap r 10240).length,false,fits (ap r 10240).length, !decide ((ap r 10240).length≠0),fits (ap r 10240).length,decide (1<((ap r 10240).length:Int)),
  true,c7 (ap r 10240)&&Nat.blt (ap r 10240).length 3000,
  (Builtin.Str.occurrences (ap r 10240) (Str.ofString "\r\n") 0 (ap r 10240).length ((ap r 10240).length+1)).isEmpty,(Builtin.Str.occurrences (ap r 10240) (Str.ofString "\r") 0 (ap r 10240).length ((ap r 10240).length+1)).isEmpty,fits (ap r 10240).length],
  (.bool true,⟨fs,aT a0 a1 (bc r 10240) rest⟩)):=by kernel_rfl
theorem K8(fs:List AO)(a0 a1:AO)(r:RS)(rest:List AO):(aL S1 H2 3000 40 141 [.obj 3] ⟨fs,aT a0 a1 r rest⟩).run [true,true,false,true,true]=
 some ([true,fits r.T.length&&fits (ap r 10240).length,false,fits (ap r 10240).length, !decide ((ap r 10240).length≠0)],(.bool false,⟨fs,aT a0 a1 (mT r 10240) rest⟩)):=by kernel_rfl
theorem Io{d:Str}(h2:c7 d=true):ji d≠13/\¬(55296<=ji d):=by
 unfold ji
 cases q:Txt.charAt d (-1)with
 |none=>simp
 |some c=>
  have hm:c∈d.cps.toList:=by
   unfold Txt.charAt at q
   obtain⟨j,_,U⟩:=Option.bind_eq_some_iff.mp q
   exact List.mem_of_getElem? (i:=j) (by simpa using U)
  have:=yz (List.all_eq_true.mp h2 c hm)
  constructor
  ·intro e
   have e:((c:Nat):Int)=13:=e
   exact this.1 (by lia)
  ·intro e
   have e:(55296:Int)<=((c:Nat):Int):=e
   lia
theorem FY(fs:List AO)(a0 a1:AO)(r:RS)(rest:List AO)(V:fits r.T.length=true)(h2:c7 (ap r 10240)=true)(h3:(ap r 10240).length<3000):
 (aL S1 H2 3000 40 141 [.obj 3] ⟨fs,aT a0 a1 r rest⟩).eval=some (.bool (decide ((ap r 10240).length≠0)),⟨fs,aT a0 a1 (bc r 10240) rest⟩):=by
 have f2:fits (ap r 10240).length=true:=by unfold fits;exact Nat.ble_eq_true_of_le (by lia)
 have b3:Nat.blt (ap r 10240).length 3000=true:=Nat.blt_eq.mpr h3
 have U:=(rY h2 ((ap r 10240).length+1)).1
 have W:=(rY h2 ((ap r 10240).length+1)).2
 rcases Nat.lt_or_ge 1 (ap r 10240).length with hl|hl
 ·have lc:=Io h2
  rw[DT.aQ (K6 fs a0 a1 r rest) (by
   rw[V,f2,b3,h2,U,W,decide_eq_false lc.1,decide_eq_false lc.2,decide_eq_true (show(ap r 10240).length≠0 by lia),decide_eq_true (show(1:Int)<((ap r 10240).length:Int) by lia)]
   have:cy (-1) (ap r 10240).length=true:=by
    unfold cy
    rw[if_pos (by decide)]
    exact decide_eq_true (by lia)
   rw[this];rfl)]
  rw[decide_eq_true (show(ap r 10240).length≠0 by lia)]
 ·rcases Nat.eq_zero_or_pos (ap r 10240).length with h0|h0
  ·rw[DT.aQ (K8 fs a0 a1 r rest) (by
    rw[V,f2,decide_eq_false (show¬(ap r 10240).length≠0 by lia)];rfl)]
   rw[decide_eq_false (show¬(ap r 10240).length≠0 by lia)]
   have e:mT r 10240=bc r 10240:=by
    unfold mT bc
    rw[AT h0];rfl
   rw[e]
  ·rw[DT.aQ (K7 fs a0 a1 r rest) (by
    rw[V,f2,b3,h2,U,W,decide_eq_true (show(ap r 10240).length≠0 by lia),decide_eq_false (show¬(1:Int)<((ap r 10240).length:Int) by lia)];rfl)]
   rw[decide_eq_true (show(ap r 10240).length≠0 by lia)]
noncomputable def dz(r:RS)(k:Int):Bool:=fits r.T.length&&(c7 (ap r k)&&Nat.blt (ap r k).length 3000)
noncomputable def vZ(args:List U)(k:Int):EM U:=kj args λr z=> .test (dz r k) (.leaf (.bool (decide ((ap r k).length≠0)),⟨z.fs,nG (bc r k) z.os⟩)) .fail
noncomputable def v0(args:List U):EM U:=me 3 args λr=>λz=>List.casesOn r (vZ args 10240 z) λa r=>iB r (gI a λk=>vZ args k) z
theorem Ad(args:List U)(z:ES)(Q:U×ES->Prop)(h:(v0 args z).Holds Q):(aL S1 H2 3000 40 141 args z).Holds Q:=by
 have key:∀k,(vZ args k z).Holds Q->(∀r a0 a1 rest,fits r.T.length=true->c7 (ap r k)=true->(ap r k).length<3000->(aL S1 H2 3000 40 141 args ⟨z.fs,aT a0 a1 r rest⟩).eval=some (.bool (decide ((ap r k).length≠0)),⟨z.fs,aT a0 a1 (bc r k) rest⟩))->(aL S1 H2 3000 40 141 args z).Holds Q:=λk h he=>by
  obtain⟨r,a0,a1,rest,e,hk⟩:=lG h
  rw[e]
  cases q:dz r k with
  |false=>exact(hk.2 q).elim
  |true=>
   have V:=hk.1 q
   obtain⟨W,q⟩:=Bool.and_eq_true_iff.mp q
   obtain⟨q2,q3⟩:=Bool.and_eq_true_iff.mp q
   exact DT.du (he r a0 a1 rest W q2 (Nat.blt_eq.mp q3)) V
 obtain⟨r,rfl,h⟩:=mR h
 cases r with
 |nil=>exact key _ h λr a0 a1 rest=>FY z.fs a0 a1 r rest
 |cons a r=>
  obtain⟨rfl,h⟩:=u5 h
  obtain⟨k,rfl,h⟩:=vX h
  exact key _ h λr a0 a1 rest=>Gy z.fs a0 a1 r k rest
noncomputable def H3:Addr->List U->EM U:=iu 141 v0 H2 H2
theorem B5{C:Cx}(B:Base C S1):ba C 8 H3:=jT B (vY B) ((vY B).up (by lia)) Ad
noncomputable def ah(r:RS):Bool:=c7 r.T&&(Nat.ble r.T.length 2000&&(decide (0<=r.off)&&(decide (r.off<=r.size)&&(decide (r.size<=r.place)&&(decide (r.place<=(r.T.length:Nat))&&decide (r.chunk=aV r.T (r.place-r.size).toNat r.place.toNat))))))
noncomputable def ef(r:RS):Nat:=(r.place-r.size+r.off).toNat
noncomputable def ax(r:RS):Bool:=Nat.ble r.T.length (ef r)
noncomputable def cur(r:RS):Nat:=r.T.cps.toList.getD (ef r) 0
noncomputable def aj(r:RS):RS:=if r.size<=r.off then{bc r 10240 with off:=1}else{r with off:=r.off+1}
noncomputable def aO(r:RS):RS:=bc r 10240
structure bj(r:RS)(p s o:Nat):Prop where
 good:c7 r.T=true
 len:r.T.length<=2000
 hp:r.place=(p:Int)
 hs:r.size=(s:Int)
 ho:r.off=(o:Int)
 os:o<=s
 sp:s<=p
 pt:p<=r.T.length
 ch:r.chunk=aV r.T (p-s) p
theorem u7{p s:Nat}(h:s<=p):(p:Int)-(s:Int)=((p-s:Nat):Int):=(Int.ofNat_sub h).symm
theorem vr{r:RS}(h:ah r=true):∃p s o,bj r p s o:=by
 obtain⟨V,h⟩:=Bool.and_eq_true_iff.mp h
 obtain⟨h2,h⟩:=Bool.and_eq_true_iff.mp h
 obtain⟨h3,h⟩:=Bool.and_eq_true_iff.mp h
 obtain⟨h4,h⟩:=Bool.and_eq_true_iff.mp h
 obtain⟨h5,h⟩:=Bool.and_eq_true_iff.mp h
 obtain⟨U,h⟩:=Bool.and_eq_true_iff.mp h
 have h3:=of_decide_eq_true h3
 have h4:=of_decide_eq_true h4
 have h5:=of_decide_eq_true h5
 obtain⟨o,ho⟩:=Int.eq_ofNat_of_zero_le h3
 obtain⟨s,hs⟩:=Int.eq_ofNat_of_zero_le (Int.le_trans h3 h4)
 obtain⟨p,hp⟩:=Int.eq_ofNat_of_zero_le (Int.le_trans h3 (Int.le_trans h4 h5))
 have sp:s<=p:=Int.ofNat_le.mp (hs▸hp▸h5)
 exact⟨p,s,o,V,Nat.le_of_ble_eq_true h2,hp,hs,ho,Int.ofNat_le.mp (ho▸hs▸h4),sp,Int.ofNat_le.mp (hp▸of_decide_eq_true U),(of_decide_eq_true h).trans (by rw[hp,hs,u7 sp];rfl)⟩
theorem bj.ah{r:RS}{p s o:Nat}(h:bj r p s o):ah r=true:=by
 have d:∀{a b:Nat},a<=b->decide ((a:Int)<=(b:Int))=true:=λh=>decide_eq_true (Int.ofNat_le.mpr h)
 have U:r.chunk=aV r.T (r.place-r.size).toNat r.place.toNat:=by rw[h.ch,h.hp,h.hs,u7 h.sp];rfl
 unfold Mine.ah
 rw[h.good,Nat.ble_eq_true_of_le h.len,decide_eq_true U,h.hp,h.hs,h.ho,d h.os,d h.sp,d h.pt]
 exact decide_eq_true (Int.natCast_nonneg o)
section
variable{r:RS}{p s o:Nat}
theorem bj.n(h:bj r p s o):ef r=p-s+o:=by
 unfold ef
 rw[h.hp,h.hs,h.ho,u7 h.sp];rfl
theorem Ae{x:Str}{a b:Nat}(U:a<=b)(hb:b<=x.length):(aV x a b).length=b-a:=by
 show((x.cps.toList.take b).drop a).toArray.size=_
 have:x.cps.toList.length=x.length:=Array.length_toList
 simp[List.length_take,this]
 lia
theorem Ip{x:Str}{a b i:Nat}:(aV x a b).cps[i]?=if a+i<b then x.cps.toList[a+i]?else none:=by
 show((x.cps.toList.take b).drop a).toArray[i]?=_
 rw[List.getElem?_toArray,List.getElem?_drop,List.getElem?_take]
theorem bj.iG(h:bj r p s o):r.chunk.length=s:=by
 rw[h.ch,Ae (Nat.sub_le p s) h.pt]
 exact Nat.sub_sub_self h.sp
theorem Af{x:Str}{i:Nat}(h:i<x.length):Txt.item x (i:Int)=⟨#[x.cps.toList.getD i 0]⟩:=by
 unfold Txt.item Txt.charAt
 have:seqIndex? (i:Int) x.length=some i:=by
  unfold seqIndex?
  have V:¬((i:Int)<0):=by lia
  simp[V]
  lia
 rw[this]
 simp[List.getD]
theorem bj.cur(h:bj r p s o)(ho:o<s):Txt.item r.chunk r.off=⟨#[Mine.cur r]⟩:=by
 rw[h.ho,Af (by rw[h.iG];exact ho)]
 unfold Mine.cur
 rw[h.n]
 have U:=h.sp
 have e:(aV r.T (p-s) p).cps.toList[o]?=r.T.cps.toList[p-s+o]?:=by
  rw[Array.getElem?_toList,Ip,if_pos (by lia)]
 have e2:r.chunk.cps.toList.getD o 0=r.T.cps.toList.getD (p-s+o) 0:=by
  rw[h.ch]
  show(aV r.T (p-s) p).cps.toList[o]?.getD 0=r.T.cps.toList[p-s+o]?.getD 0
  rw[e]
 rw[e2]
theorem Gz{x:Str}{a b:Nat}(h:c7 x=true):c7 (aV x a b)=true:=by
 refine List.all_eq_true.mpr λc U=>List.all_eq_true.mp h c ?_
 have:c∈(x.cps.toList.take b).drop a:=by simpa[aV,cut]using U
 exact List.mem_of_mem_take (List.mem_of_mem_drop this)
theorem not_neg{n:Nat}:¬(n:Int)<0:=Int.not_lt.mpr (Int.natCast_nonneg n)
theorem bj.next(h:bj r p s o){k:Nat}:ap r (k:Int)=aV r.T p (min (p+k) r.T.length):=by
 unfold ap
 rw[h.hp,if_neg not_neg,show(p:Int)+(k:Int)=((p+k:Nat):Int)from rfl,if_neg not_neg,Int.toNat_natCast,Int.toNat_natCast,Nat.min_eq_left h.pt]
theorem bj.kU(h:bj r p s o){k:Nat}:(ap r (k:Int)).length=min k (r.T.length-p):=by
 rw[h.next,Ae (Nat.le_min.mpr ⟨Nat.le_add_right p k,h.pt⟩) (Nat.min_le_right _ _),<-Nat.sub_min_sub_right,Nat.add_sub_cancel_left]
theorem bj.dz(h:bj r p s o){k:Nat}:dz r (k:Int)=true:=by
 unfold Mine.dz
 rw[Bool.and_eq_true,Bool.and_eq_true]
 refine⟨Nat.ble_eq_true_of_le (Nat.le_trans h.len (by decide)),by rw[h.next];exact Gz h.good,Nat.blt_eq.mpr ?_⟩
 rw[h.kU]
 exact Nat.lt_of_le_of_lt (Nat.le_trans (Nat.min_le_right _ _) (Nat.le_trans (Nat.sub_le _ _) h.len)) (by decide)
theorem bj.read(h:bj r p s o){k:Nat}:bj (bc r (k:Int)) (p+min k (r.T.length-p)) (min k (r.T.length-p)) 0:=by
 have e:p+min k (r.T.length-p)=min (p+k) r.T.length:=by rw[<-Nat.add_min_add_left,Nat.add_sub_cancel' h.pt]
 refine⟨h.good,h.len, ?_, ?_,rfl,Nat.zero_le _,Nat.le_add_left _ _, ?_, ?_⟩
 ·show r.place+((ap r (k:Int)).length:Nat)=_
  rw[h.hp,h.kU];rfl
 ·show((ap r (k:Int)).length:Int)=_
  rw[h.kU]
 ·rw[e];exact Nat.min_le_right _ _
 ·show ap r (k:Int)=aV r.T _ _
  rw[h.next,e,<-e,Nat.add_sub_cancel,e]
theorem bj.eof(h:bj r p s o):ax r=true<->(o=s/\p=r.T.length):=by
 unfold ax
 rw[h.n]
 have V:=h.os
 have h2:=h.sp
 have h3:=h.pt
 constructor
 ·intro q
  have:=Nat.le_of_ble_eq_true q
  lia
 ·intro q
  exact Nat.ble_eq_true_of_le (by lia)
end
theorem Nt(fs:List AO)(a0 a1:AO)(r:RS)(rest:List AO):(aL S1 H3 3000 40 133 [.obj 3] ⟨fs,aT a0 a1 r rest⟩).run [true,true,false,true]=
 some ([decide (r.size<=r.off),dz r 10240, !decide ((ap r 10240).length≠0),fits (ap r 10240).length&&cy 0 (ap r 10240).length],
  (.str (Txt.item (bc r 10240).chunk (bc r 10240).off),⟨fs,aT a0 a1 {bc r 10240 with off:=1} rest⟩)):=by kernel_rfl
theorem Nu(fs:List AO)(a0 a1:AO)(r:RS)(rest:List AO):(aL S1 H3 3000 40 133 [.obj 3] ⟨fs,aT a0 a1 r rest⟩).run [false,true]=
 some ([decide (r.size<=r.off),fits r.chunk.length&&cy r.off r.chunk.length],(.str (Txt.item r.chunk r.off),⟨fs,aT a0 a1 {r with off:=r.off+1} rest⟩)):=by kernel_rfl
theorem Nv(fs:List AO)(a0 a1:AO)(r:RS)(rest:List AO):(aL S1 H3 3000 40 133 [.obj 3] ⟨fs,aT a0 a1 r rest⟩).run [true,true,true]=
 some ([decide (r.size<=r.off),dz r 10240, !decide ((ap r 10240).length≠0)],(.none,⟨fs,aT a0 a1 (aO r) rest⟩)):=by kernel_rfl
theorem py{x:Nat}{n:Nat}(h:x<n):cy (x:Int) n=true:=by
 unfold cy
 rw[if_neg (by lia)]
 exact decide_eq_true (by lia)
theorem GB{r:RS}{p s o:Nat}(h:bj r p s o)(he:ax r=false)(fs:List AO)(a0 a1:AO)(rest:List AO):
 (aL S1 H3 3000 40 133 [.obj 3] ⟨fs,aT a0 a1 r rest⟩).eval=some (.str ⟨#[cur r]⟩,⟨fs,aT a0 a1 (aj r) rest⟩):=by
 have W:=h.os
 have hl:=h.len
 rcases Nat.lt_or_ge o s with U|X
 ·rw[DT.aQ (Nu fs a0 a1 r rest) (by
   rw[decide_eq_false (by rw[h.hs,h.ho];lia),h.iG,h.ho,py U]
   have:fits s=true:=by unfold fits;exact Nat.ble_eq_true_of_le (by have:=h.sp;have:=h.pt;lia)
   rw[this];rfl)]
  rw[h.cur U]
  have:aj r={r with off:=r.off+1}:=by unfold aj;rw[if_neg (by rw[h.hs,h.ho];lia)]
  rw[this]
 ·have V:o=s:=by lia
  have hp:p<r.T.length:=by
   rcases Nat.lt_or_ge p r.T.length with q|q
   ·exact q
   ·have:=h.eof.mpr ⟨V,by have:=h.pt;lia⟩
    rw[this]at he;cases he
  have hn:(ap r 10240).length=r.T.length-p:=by
   have:=h.kU (k:=10240)
   rw[show((10240:Nat):Int)=10240 from rfl]at this
   rw[this];lia
  have hr:=h.read (k:=10240)
  rw[show((10240:Nat):Int)=10240 from rfl]at hr
  rw[DT.aQ (Nt fs a0 a1 r rest) (by
   rw[decide_eq_true (show r.size<=r.off by rw[h.hs,h.ho];lia),show dz r 10240=true from h.dz (k:=10240),hn,decide_eq_true (show r.T.length-p≠0 by lia)]
   have:fits (r.T.length-p)=true:=by unfold fits;exact Nat.ble_eq_true_of_le (by lia)
   rw[this,show cy 0 (r.T.length-p)=true from py (x:=0) (by lia)];rfl)]
  rw[hr.cur (by lia)]
  have e1:cur (bc r 10240)=cur r:=by
   unfold cur
   rw[hr.n,h.n]
   show r.T.cps.toList.getD _ 0=r.T.cps.toList.getD _ 0
   congr 1
   have:=h.sp
   lia
  have e2:aj r={bc r 10240 with off:=1}:=by unfold aj;rw[if_pos (by rw[h.hs,h.ho];lia)]
  rw[e1,e2]
theorem Iq{r:RS}{p s o:Nat}(h:bj r p s o)(he:ax r=true)(fs:List AO)(a0 a1:AO)(rest:List AO):
 (aL S1 H3 3000 40 133 [.obj 3] ⟨fs,aT a0 a1 r rest⟩).eval=some (.none,⟨fs,aT a0 a1 (aO r) rest⟩):=by
 obtain⟨rfl,rfl⟩:=h.eof.mp he
 have hn:(ap r 10240).length=0:=by
  have:=h.kU (k:=10240)
  rw[show((10240:Nat):Int)=10240 from rfl]at this
  rw[this];lia
 rw[DT.aQ (Nv fs a0 a1 r rest) (by
  rw[decide_eq_true (show r.size<=r.off by rw[h.hs,h.ho];lia),show dz r 10240=true from h.dz (k:=10240),hn];rfl)]
noncomputable def B6(args:List U):EM U:=me 3 args λr=>iB r (kj args λr z=> .test (ah r) (.test (ax r) (.leaf (.none,⟨z.fs,nG (aO r) z.os⟩)) (.leaf (.str ⟨#[cur r]⟩,⟨z.fs,nG (aj r) z.os⟩))) .fail)
theorem Ir(args:List U)(z:ES)(Q:U×ES->Prop)(h:(B6 args z).Holds Q):(aL S1 H3 3000 40 133 args z).Holds Q:=by
 obtain⟨r,rfl,h⟩:=mR h
 obtain⟨rfl,h⟩:=u5 h
 obtain⟨r,a0,a1,rest,e,hk⟩:=lG h
 rw[e]
 cases q:ah r with
 |false=>exact(hk.2 q).elim
 |true=>
  have hk:=hk.1 q
  obtain⟨p,s,o,hr⟩:=vr q
  cases q2:ax r with
  |true=>exact DT.du (Iq hr q2 z.fs a0 a1 rest) (hk.1 q2)
  |false=>exact DT.du (GB hr q2 z.fs a0 a1 rest) (hk.2 q2)
noncomputable def dm(r:RS):Nat:=r.T.cps.toList.getD (ef r-1) 0
noncomputable def back(r:RS):RS:={r with off:=r.off-1}
theorem K9(fs:List AO)(a0 a1:AO)(r:RS)(x:Str)(rest:List AO):(aL S1 H3 3000 40 163 [.obj 3, .str x] ⟨fs,aT a0 a1 r rest⟩).run [true,false,true,true]=
 some ([true,decide (r.off=0),fits r.chunk.length&&cy (r.off-1) r.chunk.length,decide (Txt.item r.chunk (r.off-1)=x)],(.none,⟨fs,aT a0 a1 (back r) rest⟩)):=by kernel_rfl
theorem K_(fs os:List AO):(aL S1 H3 3000 40 163 [.obj 3, .none] ⟨fs,os⟩).run [false]=some ([false],(.none,⟨fs,os⟩)):=by kernel_rfl
noncomputable def Bk(args:List U):EM U:=me 3 args λr=>kQ r λa z=>U.casesOn a (.leaf (.none,z)) (λ_=> .fail) (λ_=> .fail) (λx=>kj args (λr z=> .test (ah r&&(decide (1<=r.off)&&decide (x=⟨#[dm r]⟩))) (.leaf (.none,⟨z.fs,nG (back r) z.os⟩)) .fail) z) (λ_=> .fail) (λ_=> .fail) (λ_=> .fail) (λ_=> .fail) (λ_=> .fail) (λ_=> .fail) (λ_ _=> .fail) (λ_ _=> .fail) .fail
theorem bj.back{r:RS}{p s o:Nat}(h:bj r p s (o+1)):bj (back r) p s o:=
 ⟨h.good,h.len,h.hp,h.hs,by show r.off-1=_;rw[h.ho];lia,by have:=h.os;lia,h.sp,h.pt,h.ch⟩
theorem K'{r:RS}{x:Str}(q:(ah r&&(decide (1<=r.off)&&decide (x=⟨#[dm r]⟩)))=true) (fs:List AO) (a0 a1:AO) (rest:List AO):(aL S1 H3 3000 40 163 [.obj 3, .str x] ⟨fs,aT a0 a1 r rest⟩).eval=some (.none,⟨fs,aT a0 a1 (back r) rest⟩):=by
 obtain⟨U,q⟩:=Bool.and_eq_true_iff.mp q
 obtain⟨q2,q3⟩:=Bool.and_eq_true_iff.mp q
 have q2:=of_decide_eq_true q2
 have q3:=of_decide_eq_true q3
 obtain⟨p,s,o,hr⟩:=vr U
 cases o with
 |zero=>rw[hr.ho]at q2;cases q2
 |succ o=>
  have hb:=hr.back
  have e2:cur (back r)=dm r:=by
   unfold cur dm
   rw[hb.n,hr.n]
   show r.T.cps.toList.getD _ 0=_
   congr 1
  have e1:Txt.item r.chunk (r.off-1)=x:=by
   rw[q3,<-e2];exact hb.cur (by have:=hr.os;lia)
  exact DT.aQ (K9 fs a0 a1 r x rest) (by
   rw[decide_eq_false (show¬r.off=0 by lia),decide_eq_true e1,hr.iG,show r.off-1=((o:Nat):Int) by rw[hr.ho];lia,py (show o<s by have:=hr.os;lia)]
   have:fits s=true:=by unfold fits;exact Nat.ble_eq_true_of_le (by have:=hr.sp;have:=hr.pt;have:=hr.len;lia)
   rw[this];rfl)
theorem GC(args:List U)(z:ES)(Q:U×ES->Prop)(h:(Bk args z).Holds Q):(aL S1 H3 3000 40 163 args z).Holds Q:=by
 obtain⟨r,rfl,h⟩:=mR h
 obtain⟨a,rfl,h⟩:=re h
 cases a with
 |none=>exact DT.du (DT.aQ (K_ z.fs z.os) rfl) h
 |str x=>
  obtain⟨r,a0,a1,rest,e,hk⟩:=lG h
  rw[e]
  cases q:ah r&&(decide (1<=r.off)&&decide (x=⟨#[dm r]⟩))with
  |false=>exact(hk.2 q).elim
  |true=>exact DT.du (K' q z.fs a0 a1 rest) (hk.1 q)
 |_=>exact h.elim
noncomputable def ss(ks:List Nat):List (Str×U)->Bool
 |[]=>true
 |p::r=>fixed ks p.2&&ss ks r
noncomputable def su(ks:List Nat):AO->Bool
 | .list xs=>cm ks xs
 | .dict es=>ss ks es
 | .inst _ dl=>fixed ks (.obj dl)
 | .frame _=>false
 | .cell _=>false
 |_=>true
section
variable{P:Params}{F:Heap}{ρ af φ:List Addr}{aq:List (Addr×Obj)}{h h':Heap}{ks:List Nat}
theorem Ag(hr:jx ks ρ af):∀{es:List (Str×U)} {ds:List DictEntry},bT P F ρ es ds->ss ks es=true->bT P F af es ds
 |_,_, .nil,_=> .nil
 |_,_, .cons h r,e=>by
  rw[ss,Bool.and_eq_true]at e
  exact .cons (oC hr h e.1) (Ag hr r e.2)
theorem Bl(hr:jx ks ρ af){o:AO}{c:Obj}(h:OR P F ρ o c)(ok:su ks o=true):OR P F af o c:=by
 cases o with
 |list xs=>obtain⟨vs,n,e,r⟩:=h;exact⟨vs,n,e,ue hr r ok⟩
 |dict es=>obtain⟨ds,n,e,r,k⟩:=h;exact⟨ds,n,e,Ag hr r ok,k⟩
 |inst C dl=>
  obtain⟨d,e,r⟩:=h
  have:=oC (F:=F) hr (.obj e) ok
  cases this with
  |obj U=>exact⟨d,U,r⟩
 |frame es=>cases ok
 |cell v=>cases ok
 |any=>trivial
 |gone=>trivial
noncomputable abbrev cR(r:RS)(junk:List AO):List AO:=aT .gone .gone r junk
noncomputable def comp(a0 a1:AO)(rest:List AO):List AO:=a0::a1:: .gone:: .gone:: .gone:: .gone:: .gone:: .gone::rest
noncomputable def k8:List Nat:=[0,1,2,3,4,5,6,7]
theorem v3{i l:Nat}(h:k8[i]?=some l):i=l/\l<8:=by
 match i,h with
 |0,h=>cases h;exact⟨rfl,by decide⟩
 |1,h=>cases h;exact⟨rfl,by decide⟩
 |2,h=>cases h;exact⟨rfl,by decide⟩
 |3,h=>cases h;exact⟨rfl,by decide⟩
 |4,h=>cases h;exact⟨rfl,by decide⟩
 |5,h=>cases h;exact⟨rfl,by decide⟩
 |6,h=>cases h;exact⟨rfl,by decide⟩
 |7,h=>cases h;exact⟨rfl,by decide⟩
 |i+8,h=>simp[k8]at h
theorem mG{a0 a1:AO}{r:RS}{rest junk fs:List AO}{i:Ix}{o:AO}(e:cell (aT a0 a1 r rest) fs i=some o):
 (∃l,i= .o l/\l<8/\2<=l/\cell (cR r junk) [] i=some o/\su k8 o=true)\/(cell (comp a0 a1 rest) fs i=some o/\(∀r',cell (aT a0 a1 r' rest) fs i=some o)/\∀l,i= .o l->l<2\/8<=l):=by
 match i,e with
 | .f n,e=>exact .inr ⟨e,λ_=>e,λl h=>by cases h⟩
 | .o 0,e=>exact .inr ⟨e,λ_=>e,λl h=>by cases h;lia⟩
 | .o 1,e=>exact .inr ⟨e,λ_=>e,λl h=>by cases h;lia⟩
 | .o 2,e=>cases e;exact .inl ⟨2,rfl,by lia,by lia,rfl,rfl⟩
 | .o 3,e=>cases e;exact .inl ⟨3,rfl,by lia,by lia,rfl,rfl⟩
 | .o 4,e=>cases e;exact .inl ⟨4,rfl,by lia,by lia,rfl,rfl⟩
 | .o 5,e=>cases e;exact .inl ⟨5,rfl,by lia,by lia,rfl,rfl⟩
 | .o 6,e=>cases e;exact .inl ⟨6,rfl,by lia,by lia,rfl,rfl⟩
 | .o 7,e=>cases e;exact .inl ⟨7,rfl,by lia,by lia,rfl,rfl⟩
 | .o (n+8),e=>exact .inr ⟨e,λ_=>e,λl h=>by cases h;lia⟩
theorem Iu{a0 a1:AO}{r:RS}{rest fs:List AO}{l:Nat}{o:AO}(e:cell (cR r []) [] (.o l)=some o)(hl:o.live=true):cell (aT a0 a1 r rest) fs (.o l)=some o/\2<=l/\l<8/\su k8 o=true:=by
 match l,e with
 |0,e=>cases e;cases hl
 |1,e=>cases e;cases hl
 |2,e=>cases e;exact⟨rfl,by lia,by lia,rfl⟩
 |3,e=>cases e;exact⟨rfl,by lia,by lia,rfl⟩
 |4,e=>cases e;exact⟨rfl,by lia,by lia,rfl⟩
 |5,e=>cases e;exact⟨rfl,by lia,by lia,rfl⟩
 |6,e=>cases e;exact⟨rfl,by lia,by lia,rfl⟩
 |7,e=>cases e;exact⟨rfl,by lia,by lia,rfl⟩
 |n+8,e=>simp[cell,aT]at e
theorem my{a0 a1:AO}{r:RS}{rest fs:List AO}{i:Ix}{o:AO}(e:cell (comp a0 a1 rest) fs i=some o)(hl:o.live=true):cell (aT a0 a1 r rest) fs i=some o/\∀l,i= .o l->l<2\/8<=l:=by
 match i,e with
 | .f n,e=>exact⟨e,λl h=>by cases h⟩
 | .o 0,e=>exact⟨e,λl h=>by cases h;lia⟩
 | .o 1,e=>exact⟨e,λl h=>by cases h;lia⟩
 | .o 2,e=>cases e;cases hl
 | .o 3,e=>cases e;cases hl
 | .o 4,e=>cases e;cases hl
 | .o 5,e=>cases e;cases hl
 | .o 6,e=>cases e;cases hl
 | .o 7,e=>cases e;cases hl
 | .o (n+8),e=>exact⟨e,λl h=>by cases h;lia⟩
theorem Rel.window{a0 a1:AO}{r:RS}{rest fs:List AO}(R:Rel P F ρ φ aq (aT a0 a1 r rest) fs h):∃H,Rel P F (ρ.take 8) [] (H++aq) (cR r []) [] h/\
 ∀F' af r' junk h',Ext F (ρ.take 8) F' af->Rel P F' af [] (H++aq) (cR r' junk) [] h'->Rel P F' ρ φ aq (aT a0 a1 r' rest) fs h':=by
 have hlen:ρ.length=8+rest.length:=by rw[R.len];simp[aT];lia
 have tk:∀{l:Nat},l<8->(ρ.take 8)[l]?=ρ[l]?:=λ{l} h=>by rw[List.getElem?_take,if_pos h]
 have mem:∀p∈fm h (comp a0 a1 rest) ρ++fm h fs φ,∃(i:Ix) (o:AO),cell (comp a0 a1 rest) fs i=some o/\adr ρ φ i=some p.1/\o.live=true/\h.get? p.1=some p.2:=λp hp=>by
  rcases List.mem_append.mp hp with hp|hp
  ·obtain⟨i,o,V,h2,h3,h4⟩:=kA hp
   exact⟨.o i,o,V,h2,h3,h4⟩
  ·obtain⟨i,o,V,h2,h3,h4⟩:=kA hp
   exact⟨.f i,o,V,h2,h3,h4⟩
 have has:∀(i:Ix) (o:AO) (a:Addr) (c:Obj),cell (comp a0 a1 rest) fs i=some o->adr ρ φ i=some a->o.live=true->h.get? a=some c->(a,c)∈fm h (comp a0 a1 rest) ρ++fm h fs φ:=λi o a c V h2 h3 h4=>by
  cases i with
  |o i=>exact List.mem_append.mpr (.inl (qN V h2 h3 h4))
  |f i=>exact List.mem_append.mpr (.inr (qN V h2 h3 h4))
 have down:∀{i:Nat} {o:AO} {a:Addr},cell (cR r []) [] (.o i)=some o->(ρ.take 8)[i]?=some a->o.live=true->cell (aT a0 a1 r rest) fs (.o i)=some o/\ρ[i]?=some a/\su k8 o=true/\2<=i/\i<8:=λe1 e2 hl=>by
  obtain⟨V,h2,h3,h4⟩:=Iu (a0:=a0) (a1:=a1) (rest:=rest) (fs:=fs) e1 hl
  exact⟨V,by rw[<-tk h3];exact e2,h4,h2,h3⟩
 refine⟨fm h (comp a0 a1 rest) ρ++fm h fs φ,⟨R.keep,by rw[List.length_take,hlen];simp[aT],rfl, ?_, ?_, ?_, ?_, ?_, ?_, ?_⟩,λF' af r' junk h' X U=> ?_⟩
 ·intro i o a e1 e2 hl
  cases i with
  |f i=>cases e1
  |o i=>
   obtain⟨V,h2,h3,h4,h5⟩:=down e1 e2 hl
   obtain⟨c,k1,k2⟩:=R.at_ (.o i) o a V h2 hl
   exact⟨c,k1,Bl (ks:=k8) (λi l a _ e1 e2=>by
    obtain⟨rfl,q⟩:=v3 e1
    rw[tk q];exact e2) k2 h3⟩
 ·intro i o a e1 e2 hl
  cases i with
  |f i=>cases e1
  |o i=>
   obtain⟨V,h2,h3,h4,h5⟩:=down e1 e2 hl
   exact R.new (.o i) o a V h2 hl
 ·intro i j o o' a e1 e2 Z W K J
  cases i with
  |f i=>cases e1
  |o i=>
   cases j with
   |f j=>cases e2
   |o j=>
    obtain⟨V,h2,_⟩:=down e1 K Z
    obtain⟨k1,k2,_⟩:=down e2 J W
    exact R.inj (.o i) (.o j) o o' a V k1 Z W h2 k2
 ·intro p hp
  rcases List.mem_append.mp hp with hp|hp
  ·obtain⟨i,o,V,h2,h3,h4⟩:=mem p hp;exact h4
  ·exact R.bz p hp
 ·intro p hp
  rcases List.mem_append.mp hp with hp|hp
  ·obtain⟨i,o,V,h2,h3,h4⟩:=mem p hp
   exact R.new i o _ (my (r:=r) V h3).1 h2 h3
  ·exact R.hF p hp
 ·intro p hp i o e hl e2
  cases i with
  |f i=>cases e
  |o i=>
   obtain⟨V,h2,_,h4,h5⟩:=down e e2 hl
   rcases List.mem_append.mp hp with hp|hp
   ·obtain⟨j,o',k1,k2,Y,L⟩:=mem p hp
    have I:=my (r:=r) k1 Y
    have:=R.inj (.o i) j o o' p.1 V I.1 hl Y h2 k2
    subst this
    have:=I.2 i rfl
    lia
   ·exact R.hC p hp (.o i) o V hl h2
 ·rw[List.map_append,List.map_append,List.nodup_append]
  refine⟨?_,R.hN,λx hx y hy e=> ?_⟩
  ·rw[List.nodup_append]
   refine⟨qG λi j o o' a V h2 h3 h4 h5 N=> ?_,qG λi j o o' a V h2 h3 h4 h5 N=> ?_,λx hx y hy e=> ?_⟩
   ·have:=R.inj (.o i) (.o j) o o' a (my (r:=r) (i:= .o i) (fs:=fs) V h3).1 (my (r:=r) (i:= .o j) (fs:=fs) h2 h4).1 h3 h4 h5 N
    cases this;rfl
   ·have:=R.inj (.f i) (.f j) o o' a V h2 h3 h4 h5 N
    cases this;rfl
   ·obtain⟨p,hp,rfl⟩:=List.mem_map.mp hx
    obtain⟨q,G,rfl⟩:=List.mem_map.mp hy
    obtain⟨i,o,V,h2,h3,h4⟩:=kA hp
    obtain⟨j,o',k1,k2,Y,L⟩:=kA G
    have:=R.inj (.o i) (.f j) o o' p.1 (my (r:=r) (i:= .o i) (fs:=fs) V h3).1 k1 h3 Y h2 (by rw[e];exact k2)
    cases this
  ·subst e
   rw[<-List.map_append]at hx
   obtain⟨p,hp,rfl⟩:=List.mem_map.mp hx
   obtain⟨q,G,e⟩:=List.mem_map.mp hy
   obtain⟨i,o,V,h2,h3,h4⟩:=mem p hp
   exact R.hC q G i o (my (r:=r) V h3).1 h3 (by rw[e];exact h2)
 ·obtain⟨t,ht⟩:=X.pre
  have up:∀{l:Nat},l<8->af[l]?=ρ[l]?:=λ{l} h=>by
   rw[ht,List.getElem?_append_left (by rw[List.length_take,hlen];lia),tk h]
  have mono:Ext F ρ F' ρ:=⟨X.keep,[],by simp⟩
  refine⟨U.keep,by rw[hlen];simp[aT];lia,R.eX, ?_, ?_, ?_,λp hp=>U.bz p (List.mem_append.mpr (.inr hp)),λp hp=>U.hF p (List.mem_append.mpr (.inr hp)), ?_,R.hN⟩
  ·intro i o a e1 e2 hl
   rcases mG (junk:=junk) e1 with⟨l,rfl,V,h2,h3,h4⟩|⟨V,h2,h3⟩
   ·obtain⟨c,k1,k2⟩:=U.at_ (.o l) o a h3 (by show af[l]?=_;rw[up V];exact e2) hl
    exact⟨c,k1,Bl (ks:=k8) (λi l a _ e1 e2=>by
     obtain⟨rfl,q⟩:=v3 e1
     rw[<-up q];exact e2) k2 h4⟩
   ·obtain⟨c,k1,k2⟩:=R.at_ i o a (h2 r) e2 hl
    exact⟨c,U.bz (a,c) (List.mem_append.mpr (.inl (has i o a c V e2 hl k1))),k2.mono mono⟩
  ·intro i o a e1 e2 hl
   rcases mG (junk:=junk) e1 with⟨l,rfl,V,h2,h3,h4⟩|⟨V,h2,h3⟩
   ·exact U.new (.o l) o a h3 (by show af[l]?=_;rw[up V];exact e2) hl
   ·obtain⟨c,k1,k2⟩:=R.at_ i o a (h2 r) e2 hl
    exact U.hF (a,c) (List.mem_append.mpr (.inl (has i o a c V e2 hl k1)))
  ·have D:∀{l:Nat} {j:Ix} {o o':AO} {a:Addr},l<8->cell (cR r' junk) [] (.o l)=some o->cell (comp a0 a1 rest) fs j=some o'->cell (aT a0 a1 r rest) fs j=some o'->o.live=true->o'.live=true->ρ[l]?=some a->adr ρ φ j=some a->False:=λ{l j o o' a} q h3 k1 k2 Z W K J=>by
    obtain⟨c,c1,c2⟩:=R.at_ j o' a k2 J W
    exact U.hC (a,c) (List.mem_append.mpr (.inl (has j o' a c k1 J W c1))) (.o l) o h3 Z (by show af[l]?=_;rw[up q];exact K)
   intro i j o o' a e1 e2 Z W K J
   rcases mG (junk:=junk) e1 with⟨l,rfl,V,h2,h3,h4⟩|⟨V,h2,h3⟩
   ·rcases mG (junk:=junk) e2 with⟨m,rfl,k1,k2,Y,L⟩|⟨k1,k2,Y⟩
    ·exact U.inj (.o l) (.o m) o o' a h3 Y Z W (by show af[l]?=_;rw[up V];exact K) (by show af[m]?=_;rw[up k1];exact J)
    ·exact(D V h3 k1 (k2 r) Z W K J).elim
   ·rcases mG (junk:=junk) e2 with⟨m,rfl,k1,k2,Y,L⟩|⟨k1,k2,Y⟩
    ·exact(D k1 Y V (h2 r) W Z J K).elim
    ·exact R.inj i j o o' a (h2 r) (k2 r) Z W K J
  ·intro p hp i o e hl e2
   rcases mG (junk:=junk) e with⟨l,rfl,V,h2,h3,h4⟩|⟨V,h2,h3⟩
   ·exact U.hC p (List.mem_append.mpr (.inr hp)) (.o l) o h3 hl (by show af[l]?=_;rw[up V];exact e2)
   ·exact R.hC p hp i o (h2 r) hl e2
end
noncomputable def B8(g:Addr)(V:List U->RS->DT (U×RS))(H:Addr->List U->EM U):Addr->List U->EM U:=λf args=>bo (Nat.beq f g) (kj args λr z=>(V args r).bind λp=> .leaf (p.1,⟨z.fs,nG p.2 z.os⟩)) (H f args)
theorem Iv{C:Cx}{n:Nat}{H:Addr->List U->EM U}{g:Addr}{Z:List U->RS->DT (U×RS)}(J:ba C n H)
 (h:∀args r v r',(Z args r).eval=some (v,r')->cm k8 args=true/\fR v=true/\(H g args ⟨[],cR r []⟩).Holds λo=>∃junk,o=(v,⟨[],cR r' junk⟩)):ba C n (B8 g Z H):=by
 intro A a1 a2 a3 f args vals W z s V hr
 refine bP (λq Q L=> ?_) λ_=>J A a1 a2 a3 f args vals W z s V hr
 cases Nat.eq_of_beq_eq_true q
 obtain⟨r,x0,x1,rest,N,hk⟩:=lG L
 obtain⟨⟨v,r'⟩,hp,Y⟩:=DT.yS (DT.bK hk)
 obtain⟨hf,hv,G⟩:=h args r v r' hp
 have Y:Q (v,⟨z.fs,aT x0 x1 r' rest⟩):=Y
 have I:SW C W ⟨z.fs,aT x0 x1 r rest⟩ s:=by rw[<-N];exact V
 obtain⟨D,E,back⟩:=I.rel.window
 have M:SW C ⟨W.F,W.ρ.take 8,[],D++W.aq⟩ ⟨[],cR r []⟩ s:=⟨V.base,E⟩
 have O:az W.F (W.ρ.take 8) args vals:=ue (ks:=k8) (λi l a _ e1 e2=>by
  obtain⟨rfl,q⟩:=v3 e1
  rw[List.getElem?_take,if_pos q];exact e2) hr hf
 refine codeAny_mono (J A a1 a2 a3 _ args vals _ _ s M O _ G) λB s' p=> ?_
 rcases B with e|(T|_|_|_)<;>try exact p.elim
 obtain⟨b,z',F',af,⟨junk,hm⟩,X,K,S,g,o⟩:=p
 cases hm
 exact⟨v,⟨z.fs,aT x0 x1 r' rest⟩,F',W.ρ,Y,⟨X.keep,[],(List.append_nil _).symm⟩,⟨K.base,back F' af r' junk s'.heap X K.rel⟩,Aa S hv,g,o⟩
theorem uh{S:ST}{H:Addr->List U->EM U}{N fuel:Nat}{f:Addr}{args:List U}{fi:FI}{cl:CL}{bs:List (Str×U)}{z z1 W:ES}(V:S.fn f=some fi)(h2:gW fi args=some bs)
 (h3:gl fi.scope.names [] ⟨.frame []::z.fs,z.os⟩= .leaf (cl,z1))(h4:storeAll fi.scope cl bs z1= .leaf ((),W)):
 aL S H N fuel f args z=finish (aB (bM S H N fuel fi.scope cl).St fi.body W):=by
 unfold aL lT
 rw[V]
 show Option.casesOn (motive:=λ_=>DT (U×ES)) (gW fi args) _ _=_
 rw[h2]
 show(((gl fi.scope.names [] ⟨.frame []::z.fs,z.os⟩).bind λr=>(storeAll fi.scope r.1 bs r.2).bind λr'=>aB (bM S H N fuel fi.scope r.1).St fi.body r'.2).bind nw).bind _=_
 rw[h3]
 show(((storeAll fi.scope cl bs z1).bind λr'=>aB (bM S H N fuel fi.scope cl).St fi.body r'.2).bind nw).bind _=_
 rw[h4]
 rfl
theorem oE{S:ST}{H:Addr->List U->EM U}{N fuel:Nat}{f:Addr}{args:List U}{fi:FI}{bs es:List (Str×U)}{fs os:List AO}(V:S.fn f=some fi)(h2:gW fi args=some bs)
 (h3:gl fi.scope.names [] ⟨.frame []::fs,os⟩= .leaf ([],⟨.frame []::fs,os⟩))(h4:storeAll fi.scope [] bs ⟨.frame []::fs,os⟩= .leaf ((),⟨.frame es::fs,os⟩)):
 aL S H N fuel f args ⟨fs,os⟩=finish (aB (bM S H N fuel fi.scope []).St fi.body ⟨.frame es::fs,os⟩):=uh V h2 h3 h4
theorem zu{S:ST}{H:Addr->List U->EM U}{N n:Nat}{sc:Scope}{cl:CL}{t:PySem.Expr}{b:List Stmt}{p:Pos}:
 (bM S H N (n+1) sc cl).St (.While t b [] p)=dg ((bM S H N n sc cl).T t) (aB (bM S H N n sc cl).St b) N:=rfl
noncomputable def oq:Stmt->Option (PySem.Expr×List Stmt×Pos)
 | .While t b [] p=>some (t,b,p)
 |_=>none
noncomputable def p_(s:Stmt):PySem.Expr:=match oq s with|some p=>p.1|none=>E0
noncomputable def f'(s:Stmt):List Stmt:=match oq s with|some p=>p.2.1|none=>[]
noncomputable def xG(s:Stmt):Pos:=match oq s with|some p=>p.2.2|none=>p0
theorem Ah{s:Stmt}(h:(oq s).isSome=true):s= .While (p_ s) (f' s) [] (xG s):=l8 (b:=(oq s).isSome) (by
 cases s with
 |While t b o p=>cases o<;>first|exact trivial|exact rfl
 |_=>exact trivial) h
noncomputable def im:List Stmt:=(aW 156).body
noncomputable def eb:Stmt:=aH im 1
noncomputable def jp:Stmt:=aH (f' eb) 1
theorem La:eb= .While (p_ eb) (f' eb) [] (xG eb):=Ah (by kernel_rfl)
theorem Lb:jp= .While (p_ jp) (f' jp) [] (xG jp):=Ah (by kernel_rfl)
theorem Nw:im=aH im 0::eb::im.drop 2:=by kernel_rfl
theorem Bm:f' eb=aH (f' eb) 0::jp::(f' eb).drop 2:=by kernel_rfl
noncomputable def kN:EM Bool:=(bf H3 39 156 []).T (p_ eb)
noncomputable def dX:EM FL:=aB (bf H3 39 156 []).St (f' eb)
noncomputable def jj:EM Bool:=(bf H3 38 156 []).T (p_ jp)
noncomputable def jX:EM FL:=aB (bf H3 38 156 []).St (f' jp)
noncomputable def T0(ch op:U):List (Str×U):=[("self", .obj 3),("characters",ch),("opposite",op),("rv", .obj 8)]
noncomputable def T3(ch op:U)(e:Int):List (Str×U):=[("self", .obj 3),("characters",ch),("opposite",op),("rv", .obj 8),("end", .int e)]
noncomputable def z4(ch op:U)(r:RS)(xs:List U):ES:=⟨[.frame (T0 ch op)],cR r [.list xs]⟩
noncomputable def z5(ch op:U)(r:RS)(xs:List U)(e:Int):ES:=⟨[.frame (T3 ch op e)],cR r [.list xs]⟩
noncomputable def gw(f:Stmt->EM FL)(l:List Stmt):FL×ES->DT (FL×ES):=λr=>(l9 (aB f l) r.1) r.2
theorem ik{f:Stmt->EM FL}{s:Stmt}{l:List Stmt}{z:ES}:aB f (s::l) z=(f s z).bind (gw f l):=rfl
noncomputable def K1:FL×ES->DT (FL×ES):=gw (bf H3 40 156 []).St (im.drop 2)
noncomputable def K2:FL×ES->DT (FL×ES):=gw (bf H3 39 156 []).St ((f' eb).drop 2)
theorem t6{f:Stmt->EM FL}{l:List Stmt}{z:ES}:gw f l (.next,z)=aB f l z:=rfl
theorem Lc:(bf H3 40 156 []).St eb=dg kN dX 3000:=by
 conv=>lhs;rw[La]
 exact zu
theorem AU:(bf H3 39 156 []).St jp=dg jj jX 3000:=by
 conv=>lhs;rw[Lb]
 exact zu
noncomputable def z3(ch op:U)(r:RS):ES:=⟨[.frame [("self", .obj 3),("characters",ch),("opposite",op)]],cR r []⟩
theorem RX(ch op:U)(r:RS):(bf H3 40 156 []).St (aH im 0) (z3 ch op r)= .test true (.leaf (.next,z4 ch op r [])) .fail:=by kernel_rfl
theorem RY(ch op:U)(r:RS)(xs:List U):(bf H3 39 156 []).St (aH (f' eb) 0) (z4 ch op r xs)= .leaf (.next,z5 ch op r xs r.off):=by kernel_rfl
theorem RZ(ch op:U)(r:RS)(xs:List U)(e:Int):(bf H3 39 156 []).St (aH (f' eb) 0) (z5 ch op r xs e)= .leaf (.next,z5 ch op r xs r.off):=by kernel_rfl
theorem Ny(ch op:U)(r:RS):(aB (bf H3 40 156 []).St im (z3 ch op r)).eval=((dg kN dX 3000 (z4 ch op r [])).bind K1).eval:=by
 conv=>lhs;rw[Nw,ik,RX]
 show(gw (bf H3 40 156 []).St (eb::List.drop 2 im) (.next,z4 ch op r [])).eval=_
 rw[t6,ik,Lc]
 rfl
theorem Pw(ch:U)(r:RS):aL S1 H3 3000 40 156 [.obj 3,ch] ⟨[],cR r []⟩=finish (aB (bf H3 40 156 []).St im (z3 ch (.bool false) r)):=
 oE (fi:=aW 156) (bs:=[("self", .obj 3),("characters",ch),("opposite", .bool false)]) (by kernel_rfl) (by kernel_rfl) (by kernel_rfl) (by kernel_rfl)
theorem Nz(ch op:U)(r:RS):aL S1 H3 3000 40 156 [.obj 3,ch,op] ⟨[],cR r []⟩=finish (aB (bf H3 40 156 []).St im (z3 ch op r)):=
 oE (fi:=aW 156) (bs:=[("self", .obj 3),("characters",ch),("opposite",op)]) (by kernel_rfl) (by kernel_rfl) (by kernel_rfl) (by kernel_rfl)
theorem B9(ch op:U)(r:RS)(xs:List U):kN (z4 ch op r xs)= .leaf (true,z4 ch op r xs):=by kernel_rfl
theorem Px(ch op:U)(r:RS)(xs:List U)(e:Int):kN (z5 ch op r xs e)= .leaf (true,z5 ch op r xs e):=by kernel_rfl
theorem B_(ch op:U)(r:RS)(xs:List U):dX (z4 ch op r xs)=(dg jj jX 3000 (z5 ch op r xs r.off)).bind K2:=by
 unfold dX
 conv=>lhs;rw[Bm,ik,RY]
 show gw (bf H3 39 156 []).St (jp::List.drop 2 (f' eb)) (.next,z5 ch op r xs r.off)=_
 rw[t6,ik,AU]
 rfl
theorem B'(ch op:U)(r:RS)(xs:List U)(e:Int):dX (z5 ch op r xs e)=(dg jj jX 3000 (z5 ch op r xs r.off)).bind K2:=by
 unfold dX
 conv=>lhs;rw[Bm,ik,RZ]
 show gw (bf H3 39 156 []).St (jp::List.drop 2 (f' eb)) (.next,z5 ch op r xs r.off)=_
 rw[t6,ik,AU]
 rfl
theorem R1(ch op:U)(r:RS)(xs:List U)(e:Int):jX (z5 ch op r xs e)= .leaf (.next,z5 ch op r xs (e+1)):=by kernel_rfl
noncomputable def j7(ch op:U)(P:Str->Bool):Prop:=∀(r:RS) (xs:List U) (e:Int),jj (z5 ch op r xs e)=
 .test (!decide (e=r.size)) (.test (fits r.chunk.length&&cy e r.chunk.length) (.test (P (Txt.item r.chunk e)) (.leaf (true,z5 ch op r xs e)) (.leaf (false,z5 ch op r xs e))) .fail) (.leaf (false,z5 ch op r xs e))
noncomputable def eqs(x:Str):List Str->Bool
 |[]=>false
 |y::r=>decide (x=y)||eqs x r
noncomputable def dZ(n:Nat)(i:Int):Nat:=if i<0 then(i+n).toNat else min i.toNat n
noncomputable def xH(r:RS)(a b:Int):Str:=aV r.chunk (dZ r.chunk.length a) (dZ r.chunk.length b)
noncomputable def nH(r:RS)(a:Int):Str:=aV r.chunk (dZ r.chunk.length a) r.chunk.length
theorem R4(ch op:U)(r:RS)(xs:List U)(e:Int):(K2 (.next,z5 ch op r xs e)).run [false,true,true,true]=
 some ([decide (e=r.off), !decide (e=r.size),fits r.chunk.length,fits xs.length],(.brk,z5 ch op {r with off:=e} (xs++[.str (xH r r.off e)]) e)):=by kernel_rfl
theorem R5(ch op:U)(r:RS)(xs:List U)(e:Int):(K2 (.next,z5 ch op r xs e)).run [true,true]=
 some ([decide (e=r.off), !decide (r.off=r.size)],(.brk,z5 ch op r xs e)):=by kernel_rfl
theorem R6(ch op:U)(r:RS)(xs:List U)(e:Int):(K2 (.next,z5 ch op r xs e)).run [true,false,true,true,true,false]=
 some ([decide (e=r.off), !decide (r.off=r.size),fits r.chunk.length,fits xs.length,dz r 10240, !decide ((ap r 10240).length≠0)],(.next,z5 ch op (bc r 10240) (xs++[.str (nH r r.off)]) e)):=by kernel_rfl
theorem R7(ch op:U)(r:RS)(xs:List U)(e:Int):(K2 (.next,z5 ch op r xs e)).run [true,false,true,true,true,true]=
 some ([decide (e=r.off), !decide (r.off=r.size),fits r.chunk.length,fits xs.length,dz r 10240, !decide ((ap r 10240).length≠0)],(.brk,z5 ch op (bc r 10240) (xs++[.str (nH r r.off)]) e)):=by kernel_rfl
theorem R8(ch op:U)(r:RS)(xs:List U)(e:Int):(K2 (.next,z5 ch op r xs e)).run [false,false,true,true,true,false]=
 some ([decide (e=r.off), !decide (e=r.size),fits r.chunk.length,fits xs.length,dz r 10240, !decide ((ap r 10240).length≠0)],(.next,z5 ch op (bc r 10240) (xs++[.str (nH r r.off)]) e)):=by kernel_rfl
theorem R9(ch op:U)(r:RS)(xs:List U)(e:Int):(K2 (.next,z5 ch op r xs e)).run [false,false,true,true,true,true]=
 some ([decide (e=r.off), !decide (e=r.size),fits r.chunk.length,fits xs.length,dz r 10240, !decide ((ap r 10240).length≠0)],(.brk,z5 ch op (bc r 10240) (xs++[.str (nH r r.off)]) e)):=by kernel_rfl
noncomputable def xI(ch op:U)(e:Int)(v:Str):List (Str×U):=[("self", .obj 3),("characters",ch),("opposite",op),("rv", .obj 8),("end", .int e),("r", .str v)]
theorem R_(ch op:U)(r:RS)(e:Int):(K1 (.next,z5 ch op r [] e)).run [true]=some ([JoinOk "" []],(.ret (.str (Txt.join "" [])),⟨[.frame (xI ch op e (Txt.join "" []))],cR r [.list []]⟩)):=by kernel_rfl
theorem Sa(ch op:U)(r:RS)(x:Str)(e:Int):(K1 (.next,z5 ch op r [.str x] e)).run [true]=some ([JoinOk "" [x]],(.ret (.str (Txt.join "" [x])),⟨[.frame (xI ch op e (Txt.join "" [x]))],cR r [.list [.str x]]⟩)):=by kernel_rfl
theorem Sb(ch op:U)(r:RS)(x y:Str)(e:Int):(K1 (.next,z5 ch op r [.str x, .str y] e)).run [true]=some ([JoinOk "" [x,y]],(.ret (.str (Txt.join "" [x,y])),⟨[.frame (xI ch op e (Txt.join "" [x,y]))],cR r [.list [.str x, .str y]]⟩)):=by kernel_rfl
noncomputable def cps(x:Str):List Nat:=x.cps.toList
noncomputable def one(c:Nat):Str:=⟨#[c]⟩
noncomputable def runN(P:Nat->Bool):List Nat->Nat
 |[]=>0
 |c::r=>cond (P c) (runN P r+1) 0
theorem u8{P:Nat->Bool}:∀l,runN P l<=l.length
 |[]=>Nat.le_refl _
 |c::r=>by
  unfold runN
  cases P c with
  |true=>exact Nat.succ_le_succ (u8 r)
  |false=>exact Nat.zero_le _
theorem qU{P:Nat->Bool}:∀a b,runN P (a++b)=if runN P a=a.length then a.length+runN P b else runN P a
 |[],b=>by simp[runN]
 |c::r,b=>by
  show cond (P c) (runN P (r++b)+1) 0=if cond (P c) (runN P r+1) 0=_ then _ else cond (P c) (runN P r+1) 0
  rw[qU r b]
  cases P c with
  |true=>
   show(if runN P r=r.length then r.length+runN P b else runN P r)+1=if runN P r+1=r.length+1 then r.length+1+runN P b else runN P r+1
   split<;>split<;>lia
  |false=>
   show 0=if 0=r.length+1 then r.length+1+runN P b else 0
   rw[if_neg (by lia)]
theorem oh{t:EM Bool}{b:EM FL}{n:Nat}{z z1:ES}{c:Bool}(h:(t z).eval=some (c,z1)):(dg t b (n+1) z).eval=cond c ((b z1).bind λr=>(fu (dg t b n) r.1) r.2).eval (some (.next,z1)):=by
 show((t z).bind _).eval=_
 refine f9 ?_ h
 rfl
section
variable{ch op:U}{Q:Str->Bool}{r:RS}{p s o:Nat}
theorem bj.item(h:bj r p s o){e:Nat}(he:e<s):Txt.item r.chunk (e:Int)=one ((cps r.chunk).getD e 0):=Af (by rw[h.iG];exact he)
theorem bj.oK(h:bj r p s o):s<=2000:=by have:=h.sp;have:=h.pt;have:=h.len;lia
theorem bj.mU(h:bj r p s o):(cps r.chunk).length=s:=by
 have:=h.iG
 unfold cps;rw[Array.length_toList];exact this
theorem drop_getD{l:List Nat}{e:Nat}(h:e<l.length):l.drop e=l.getD e 0::l.drop (e+1):=by
 rw[List.drop_eq_getElem_cons h]
 simp[List.getD,List.getElem?_eq_getElem h]
theorem bq{n:Nat}(h:n<=1000000):fits n=true:=by unfold fits;exact Nat.ble_eq_true_of_le h
theorem inner(W:j7 ch op Q)(h:bj r p s o)(xs:List U):∀n e,e<=s->s<n+e->
 (dg jj jX n (z5 ch op r xs (e:Int))).eval=some (.next,z5 ch op r xs ((e+runN (λc=>Q (one c)) ((cps r.chunk).drop e):Nat):Int))
 |0,e,V,h2=>by lia
 |n+1,e,V,h2=>by
  have ht:=W r xs (e:Int)
  rcases Nat.lt_or_ge e s with he|he
  ·have hd:(cps r.chunk).drop e=_::_:=drop_getD (by rw[h.mU];exact he)
   have ev:(jj (z5 ch op r xs (e:Int))).eval=some (Q (one ((cps r.chunk).getD e 0)),z5 ch op r xs (e:Int)):=by
    rw[ht,h.hs,h.iG,h.item he,py he,bq (by have:=h.oK;lia),decide_eq_false (show¬((e:Nat):Int)=(s:Int) by lia)]
    show cond (Q _) (some (true,_)) (some (false,_))=_
    cases Q (one ((cps r.chunk).getD e 0))<;>rfl
   rw[oh ev,hd]
   unfold runN
   cases X:Q (one ((cps r.chunk).getD e 0))with
   |true=>
    show((jX (z5 ch op r xs (e:Int))).bind _).eval=_
    rw[R1]
    show(dg jj jX n (z5 ch op r xs ((e:Int)+1))).eval=_
    rw[show((e:Int)+1)=((e+1:Nat):Int)from rfl,inner W h xs n (e+1) (by lia) (by lia)]
    congr 3
    show(((e+1+_:Nat)):Int)=((e+(_+1):Nat):Int)
    congr 1
    lia
   |false=>rfl
  ·obtain rfl:e=s:=by lia
   have ev:(jj (z5 ch op r xs (e:Int))).eval=some (false,z5 ch op r xs (e:Int)):=by
    rw[ht,h.hs,decide_eq_true (show((e:Nat):Int)=(e:Int)from rfl)]
    rfl
   rw[oh ev,List.drop_eq_nil_of_le (by rw[h.mU];exact Nat.le_refl _)]
   rfl
end
theorem GD{x:Str}{a b c d:Nat}(h:a+d<=b):aV (aV x a b) c d=aV x (a+c) (a+d):=by
 have e:(aV x a b).cps.toList=(x.cps.toList.take b).drop a:=by simp[aV,cut]
 show(⟨(((aV x a b).cps.toList.take d).drop c).toArray⟩:Str)=⟨((x.cps.toList.take (a+d)).drop (a+c)).toArray⟩
 rw[e,List.take_drop,List.take_take,List.drop_drop,Nat.min_eq_left h]
theorem Ai{x:Str}{a b:Nat}(h:b<=a):aV x a b="":=by
 show(⟨((x.cps.toList.take b).drop a).toArray⟩:Str)=_
 rw[List.drop_eq_nil_of_le (by rw[List.length_take];lia)];rfl
theorem Aj{x:Str}{a b c:Nat}(V:a<=b)(h2:b<=c):(⟨(aV x a b).cps++(aV x b c).cps⟩:Str)=aV x a c:=by
 show(⟨((x.cps.toList.take b).drop a).toArray++((x.cps.toList.take c).drop b).toArray⟩:Str)=⟨((x.cps.toList.take c).drop a).toArray⟩
 rw[List.append_toArray]
 congr 2
 have e:x.cps.toList.take b=(x.cps.toList.take c).take b:=by rw[List.take_take,Nat.min_eq_left h2]
 rw[e]
 generalize x.cps.toList.take c=l
 have:(l.take b).drop a++l.drop b=(l.drop a).take (b-a)++(l.drop a).drop (b-a):=by
  rw[List.drop_drop,List.drop_take,show a+(b-a)=b by lia]
 rw[this,List.take_append_drop]
theorem join_1(x:Str):Txt.join "" [x]=x:=rfl
theorem Bn(x y:Str):Txt.join "" [x,y]=⟨x.cps++y.cps⟩:=by
 show(⟨x.cps++#[]++y.cps⟩:Str)=_
 rw[Array.append_empty]
theorem Ld{ch op:U}{r:RS}{e:Int}:∀ys:List Str,ys.length<=2->(∀y∈ys,y.length<=4000)->∃es junk,(K1 (.next,z5 ch op r (ys.map .str) e)).eval=some (.ret (.str (Txt.join "" ys)),⟨[.frame es],cR r junk⟩)
 |[],_,_=>⟨_,_,DT.aQ (R_ ch op r e) (by rw[joinOk_of_weight (by decide) (by decide)])⟩
 |[x],_,h=>⟨_,_,DT.aQ (Sa ch op r x e) (by
  have:=h x (.head _)
  rw[joinOk_of_weight (by simp;lia) (by decide)])⟩
 |[x,y],_,h=>⟨_,_,DT.aQ (Sb ch op r x y e) (by
  have V:=h x (.head _)
  have h2:=h y (.tail _ (.head _))
  rw[joinOk_of_weight (by simp;lia) (by decide)])⟩
 |_::_::_::_,h,_=>by simp at h
noncomputable def dI(P:Nat->Bool)(r:RS):RS:={r with off:=r.off+(runN P ((cps r.chunk).drop r.off.toNat):Nat)}
noncomputable def eD(P:Nat->Bool)(r:RS):RS:=if(dI P r).off≠r.size then dI P r else if(ap r 10240).length=0 then bc r 10240 else if(dI P (bc r 10240)).off≠(bc r 10240).size then dI P (bc r 10240)else bc (bc r 10240) 10240
section
variable{ch op:U}{Q:Str->Bool}{r:RS}{p s o:Nat}
theorem uz{n a:Nat}(h:a<=n):dZ n (a:Int)=a:=by
 unfold dZ
 rw[if_neg (by lia)];lia
theorem bj.sv(h:bj r p s o)(P:Nat->Bool):o+runN P ((cps r.chunk).drop o)<=s:=by
 have:=u8 (P:=P) ((cps r.chunk).drop o)
 rw[List.length_drop,h.mU]at this
 have:=h.os
 lia
theorem bj.cut(h:bj r p s o){a b:Nat}(hb:b<=s):aV r.chunk a b=aV r.T (p-s+a) (p-s+b):=by
 rw[h.ch,GD (by have:=h.sp;lia)]
theorem bj.dI(h:bj r p s o)(P:Nat->Bool):bj (Mine.dI P r) p s (o+runN P ((cps r.chunk).drop o)):=
 ⟨h.good,h.len,h.hp,h.hs,by
  show r.off+_=_
  rw[h.ho]
  show(o:Int)+((runN P ((cps r.chunk).drop (Int.toNat (o:Int)))):Nat)=_
  rw[Int.toNat_natCast];lia,h.sv P,h.sp,h.pt,h.ch⟩
theorem Ak(V:j7 ch op Q)(h:bj r p s o){xs:List U}{Z:ES}(W:dX Z=(dg jj jX 3000 (z5 ch op r xs r.off)).bind K2)(hx:xs.length<=2)(hw:o+runN (λc=>Q (one c)) ((cps r.chunk).drop o)<s):
 ∃e,(dX Z).eval=some (.brk,z5 ch op (dI (λc=>Q (one c)) r) (xs++(if runN (λc=>Q (one c)) ((cps r.chunk).drop o)=0 then[]else[.str (aV r.T (p-s+o) (p-s+(o+runN (λc=>Q (one c)) ((cps r.chunk).drop o))))])) e):=by
 have X:=inner V h xs 3000 o h.os (by have:=h.oK;lia)
 rw[W,h.ho,DT.aC X]
 generalize Y:runN (λc=>Q (one c)) ((cps r.chunk).drop o)=w at hw
 have J:dI (λc=>Q (one c)) r={r with off:=((o+w:Nat):Int)}:=by
  unfold dI
  rw[h.ho,Int.toNat_natCast,Y]
  rfl
 rw[J]
 rcases Nat.eq_zero_or_pos w with h0|h0
 ·subst h0
  refine⟨((o+0:Nat):Int), ?_⟩
  rw[DT.aQ (R5 ch op r xs _) (by rw[h.ho,h.hs,decide_eq_true (show(((o+0:Nat)):Int)=(o:Int)from rfl),decide_eq_false (show¬((o:Nat):Int)=(s:Int) by lia)];rfl)]
  rw[if_pos rfl,List.append_nil]
  have:r={r with off:=((o+0:Nat):Int)}:=by
   have e:r.off=((o+0:Nat):Int):=h.ho
   rw[<-e]
  rw[<-this]
 ·refine⟨((o+w:Nat):Int), ?_⟩
  rw[DT.aQ (R4 ch op r xs _) (by
   rw[h.ho,h.hs,decide_eq_false (show¬(((o+w:Nat)):Int)=(o:Int) by lia),decide_eq_false (show¬(((o+w:Nat)):Int)=(s:Int) by lia),h.iG,bq (by have:=h.oK;lia),bq (by lia)];rfl)]
  rw[if_neg (by lia)]
  have:xH r r.off ((o+w:Nat):Int)=aV r.T (p-s+o) (p-s+(o+w)):=by
   unfold xH
   rw[h.ho,h.iG,uz h.os,uz (by lia),h.cut (by lia)]
  rw[this]
theorem zv(X:j7 ch op Q)(h:bj r p s o){xs:List U}{Z:ES}(Y:dX Z=(dg jj jX 3000 (z5 ch op r xs r.off)).bind K2)(hx:xs.length<=2)(hw:o+runN (λc=>Q (one c)) ((cps r.chunk).drop o)=s):
 ∃e,(dX Z).eval=some (if r.T.length-p=0 then .brk else .next,z5 ch op (bc r 10240) (xs++[.str (aV r.T (p-s+o) p)]) e):=by
 have J:=inner X h xs 3000 o h.os (by have:=h.oK;lia)
 rw[Y,h.ho,DT.aC J,hw]
 have hn:(ap r 10240).length=r.T.length-p:=by
  have:=h.kU (k:=10240)
  rw[show((10240:Nat):Int)=10240 from rfl]at this
  rw[this];have:=h.len;lia
 have W:dz r 10240=true:=h.dz (k:=10240)
 have f1:fits r.chunk.length=true:=by rw[h.iG];exact bq (by have:=h.oK;lia)
 have f2:fits xs.length=true:=bq (by lia)
 have sl:nH r r.off=aV r.T (p-s+o) p:=by
  unfold nH
  rw[h.ho,h.iG,uz h.os,h.cut (Nat.le_refl _),show p-s+s=p by have:=h.sp;lia]
 have K:=h.os
 refine⟨(s:Int), ?_⟩
 by_cases V:o=s
 ·by_cases h2:r.T.length-p=0
  ·rw[DT.aQ (R7 ch op r xs _) (by rw[h.ho,h.hs,V,decide_eq_true rfl,f1,f2,W,hn,decide_eq_false (show¬(r.T.length-p≠0) by lia)];rfl),sl,if_pos h2]
  ·rw[DT.aQ (R6 ch op r xs _) (by rw[h.ho,h.hs,V,decide_eq_true rfl,f1,f2,W,hn,decide_eq_true (show(r.T.length-p≠0) by lia)];rfl),sl,if_neg h2]
 ·by_cases h2:r.T.length-p=0
  ·rw[DT.aQ (R9 ch op r xs _) (by rw[h.ho,h.hs,decide_eq_false (show¬((s:Nat):Int)=(o:Int) by lia),decide_eq_true rfl,f1,f2,W,hn,decide_eq_false (show¬(r.T.length-p≠0) by lia)];rfl),sl,if_pos h2]
  ·rw[DT.aQ (R8 ch op r xs _) (by rw[h.ho,h.hs,decide_eq_false (show¬((s:Nat):Int)=(o:Int) by lia),decide_eq_true rfl,f1,f2,W,hn,decide_eq_true (show(r.T.length-p≠0) by lia)];rfl),sl,if_neg h2]
theorem lH{x:Str}{a b:Nat}(h:x.length<=2000):(aV x a b).length<=4000:=by
 show((x.cps.toList.take b).drop a).toArray.size<=_
 have:x.cps.toList.length=x.length:=Array.length_toList
 simp[List.length_take,this]
 lia
theorem bj.rest(h:bj r p s o):(cps r.T).drop (p-s+o)=(cps r.chunk).drop o++(cps r.T).drop p:=by
 have e:cps r.chunk=((cps r.T).take p).drop (p-s):=by rw[h.ch];simp[cps,aV,Mine.cut]
 have U:=h.sp
 have V:=h.os
 have W:=h.pt
 rw[e,List.drop_drop]
 conv=>lhs;rw[<-List.take_append_drop p (cps r.T)]
 rw[List.drop_append_of_le_length (by rw[List.length_take];have:(cps r.T).length=r.T.length:=Array.length_toList;lia)]
theorem FZ(K:j7 ch op Q)(h:bj r p s o):∃es junk,((dg kN dX 3000 (z4 ch op r [])).bind K1).eval=
 some (.ret (.str (aV r.T (ef r) (ef r+runN (λc=>Q (one c)) ((cps r.T).drop (ef r))))),⟨[.frame es],cR (eD (λc=>Q (one c)) r) junk⟩):=by
 have hl:=h.len
 have S:=h.pt
 have P:=h.sp
 rw[h.n,h.rest]
 have hw:=h.sv (λc=>Q (one c))
 have D:=h.dI (λc=>Q (one c))
 have N:((cps r.chunk).drop o).length=s-o:=by rw[List.length_drop,h.mU]
 have q:=h.os
 have fin:∀{R:RS} {e:Int} {ys:List Str} {v:Str} {F:DT (FL×ES)},F.eval=some (FL.next,z5 ch op R (ys.map U.str) e)->ys.length<=2->(∀y∈ys,y.length<=4000)->Txt.join "" ys=v->∃es junk,(F.bind K1).eval=some (.ret (.str v),⟨[.frame es],cR R junk⟩):=λ{R e ys v F} V h2 h3 h4=>by
  obtain⟨es,junk,he⟩:=Ld (ch:=ch) (op:=op) (r:=R) (e:=e) ys h2 h3
  exact⟨es,junk,by rw[DT.aC V,he,h4]⟩
 have E:∀{X},(dX (z4 ch op r [])).eval=some (FL.brk,X)->(dg kN dX (2999+1) (z4 ch op r [])).eval=some (FL.next,X):=λ{X} hb=>by
  rw[oh (by rw[B9];rfl)]
  show((dX (z4 ch op r [])).bind _).eval=_
  refine f9 ?_ hb;rfl
 rcases Nat.lt_or_ge (o+runN (λc=>Q (one c)) ((cps r.chunk).drop o)) s with G|C
 ·obtain⟨e,he⟩:=Ak K h (xs:=[]) (Z:=z4 ch op r []) (B_ ch op r []) (by decide) G
  have Y:eD (λc=>Q (one c)) r=dI (λc=>Q (one c)) r:=by
   unfold eD
   rw[if_pos (by rw[D.ho,h.hs];lia)]
  rw[Y]
  have hr:runN (λc=>Q (one c)) ((cps r.chunk).drop o++(cps r.T).drop p)=runN (λc=>Q (one c)) ((cps r.chunk).drop o):=by
   rw[qU,if_neg (by rw[N];lia)]
  rw[hr]
  have hm:=E he
  by_cases h0:runN (λc=>Q (one c)) ((cps r.chunk).drop o)=0
  ·rw[if_pos h0]at hm
   exact fin (ys:=[]) hm (by decide) (λy hy=>by cases hy) (by rw[Ai (by lia)];rfl)
  ·rw[if_neg h0]at hm
   exact fin (ys:=[aV r.T (p-s+o) (p-s+(o+runN (λc=>Q (one c)) ((cps r.chunk).drop o)))]) hm (by show 1<=2;lia) (λy hy=>by
    rcases List.mem_singleton.mp hy with rfl
    exact lH hl) (by rw[join_1];congr 1;lia)
 ·have M:o+runN (λc=>Q (one c)) ((cps r.chunk).drop o)=s:=by lia
  obtain⟨e,he⟩:=zv K h (xs:=[]) (Z:=z4 ch op r []) (B_ ch op r []) (by decide) M
  have hn:(ap r 10240).length=r.T.length-p:=by
   have:=h.kU (k:=10240)
   rw[show((10240:Nat):Int)=10240 from rfl]at this
   rw[this];lia
  have hr:runN (λc=>Q (one c)) ((cps r.chunk).drop o++(cps r.T).drop p)=(s-o)+runN (λc=>Q (one c)) ((cps r.T).drop p):=by
   rw[qU,if_pos (by rw[N];lia),N]
  rw[hr]
  have H:¬((dI (λc=>Q (one c)) r).off≠r.size):=by rw[D.ho,h.hs,M];simp
  by_cases h2:r.T.length-p=0
  ·rw[if_pos h2]at he
   have hm:=E he
   have Y:eD (λc=>Q (one c)) r=bc r 10240:=by
    unfold eD
    rw[if_neg H,if_pos (by rw[hn];exact h2)]
   rw[Y]
   refine fin (ys:=[aV r.T (p-s+o) p]) hm (by show 1<=2;lia) (λy hy=>by
    rcases List.mem_singleton.mp hy with rfl
    exact lH hl) ?_
   rw[join_1,List.drop_eq_nil_of_le (by show r.T.cps.toList.length<=p;rw[Array.length_toList];show r.T.length<=p;lia)]
   show aV r.T (p-s+o) p=aV r.T (p-s+o) (p-s+o+(s-o+0))
   congr 1;lia
  ·rw[if_neg h2]at he
   have W:bj (bc r 10240) (p+min 10240 (r.T.length-p)) (min 10240 (r.T.length-p)) 0:=h.read (k:=10240)
   rw[show min 10240 (r.T.length-p)=r.T.length-p by lia,show p+(r.T.length-p)=r.T.length by lia]at W
   have hT:(bc r 10240).T=r.T:=rfl
   have L:(cps (bc r 10240).chunk).drop 0=(cps r.T).drop p:=by
    have e1:=W.rest
    rw[hT]at e1
    rw[show r.T.length-(r.T.length-p)+0=p by lia,show(cps r.T).drop r.T.length=[]from List.drop_eq_nil_of_le (by show r.T.cps.toList.length<=_;rw[Array.length_toList];exact Nat.le_refl _),List.append_nil]at e1
    exact e1.symm
   have I:=W.dI (λc=>Q (one c))
   have A:=W.sv (λc=>Q (one c))
   rw[L]at I A
   have O:∀{X},(dX (z5 ch op (bc r 10240) [.str (aV r.T (p-s+o) p)] e)).eval=some (FL.brk,X)->(dg kN dX (2998+1+1) (z4 ch op r [])).eval=some (FL.next,X):=λ{X} hb=>by
    rw[oh (by rw[B9];rfl)]
    show((dX (z4 ch op r [])).bind _).eval=_
    refine f9 ?_ he
    show(dg kN dX (2998+1) (z5 ch op (bc r 10240) [.str (aV r.T (p-s+o) p)] e)).eval=_
    rw[oh (by rw[Px];rfl)]
    show((dX (z5 ch op (bc r 10240) [.str (aV r.T (p-s+o) p)] e)).bind _).eval=_
    refine f9 ?_ hb;rfl
   have w:∀a b:Nat,aV r.T (p-s+o) p=aV r.T (p-s+o) p:=λ_ _=>rfl
   rcases Nat.lt_or_ge (0+runN (λc=>Q (one c)) ((cps r.T).drop p)) (r.T.length-p)with G|C
   ·obtain⟨e2,J⟩:=Ak K W (xs:=[.str (aV r.T (p-s+o) p)]) (B' ch op (bc r 10240) [.str (aV r.T (p-s+o) p)] e) (by show 1<=2;lia) (by rw[L];exact G)
    rw[L,hT]at J
    have hm:=O J
    have Y:eD (λc=>Q (one c)) r=dI (λc=>Q (one c)) (bc r 10240):=by
     unfold eD
     rw[if_neg H,if_neg (by rw[hn];exact h2),if_pos (by rw[I.ho,W.hs];lia)]
    rw[Y]
    by_cases h0:runN (λc=>Q (one c)) ((cps r.T).drop p)=0
    ·rw[if_pos h0]at hm
     refine fin (ys:=[aV r.T (p-s+o) p]) hm (by show 1<=2;lia) (λy hy=>by
      rcases List.mem_singleton.mp hy with rfl
      exact lH hl) ?_
     rw[join_1,h0];congr 1;lia
    ·rw[if_neg h0]at hm
     refine fin (ys:=[aV r.T (p-s+o) p,aV r.T (r.T.length-(r.T.length-p)+0) (r.T.length-(r.T.length-p)+(0+runN (λc=>Q (one c)) ((cps r.T).drop p)))]) hm (by show 2<=2;lia) (λy hy=>by
      rcases List.mem_cons.mp hy with rfl|hy
      ·exact lH hl
      ·rcases List.mem_singleton.mp hy with rfl
       exact lH hl) ?_
     rw[Bn,show r.T.length-(r.T.length-p)+0=p by lia,show r.T.length-(r.T.length-p)+(0+runN (λc=>Q (one c)) ((cps r.T).drop p))=p+runN (λc=>Q (one c)) ((cps r.T).drop p) by lia,Aj (by lia) (by lia)]
     congr 1;lia
   ·have B:0+runN (λc=>Q (one c)) ((cps r.T).drop p)=r.T.length-p:=by lia
    obtain⟨e2,J⟩:=zv K W (xs:=[.str (aV r.T (p-s+o) p)]) (B' ch op (bc r 10240) [.str (aV r.T (p-s+o) p)] e) (by show 1<=2;lia) (by rw[L];exact B)
    rw[hT,if_pos (by lia)]at J
    have hm:=O J
    have Y:eD (λc=>Q (one c)) r=bc (bc r 10240) 10240:=by
     unfold eD
     rw[if_neg H,if_neg (by rw[hn];exact h2),if_neg (by rw[I.ho,W.hs,B];simp)]
    rw[Y]
    refine fin (ys:=[aV r.T (p-s+o) p,aV r.T (r.T.length-(r.T.length-p)+0) r.T.length]) hm (by show 2<=2;lia) (λy hy=>by
     rcases List.mem_cons.mp hy with rfl|hy
     ·exact lH hl
     ·rcases List.mem_singleton.mp hy with rfl
      exact lH hl) ?_
    rw[Bn,show r.T.length-(r.T.length-p)+0=p by lia,Aj (by lia) (by lia)]
    congr 1;lia
end
noncomputable def DW(v:U):Option Bool:=U.casesOn v none some (λ_=>none) (λ_=>none) (λ_=>none) (λ_=>none) (λ_=>none) (λ_=>none) (λ_=>none) (λ_=>none) (λ_ _=>none) (λ_ _=>none) none
noncomputable def hU(v:U):Option Str:=U.casesOn v none (λ_=>none) (λ_=>none) some (λ_=>none) (λ_=>none) (λ_=>none) (λ_=>none) (λ_=>none) (λ_=>none) (λ_ _=>none) (λ_ _=>none) none
theorem rB{v:U}{b:Str}(h:hU v=some b):v= .str b:=fF (P:=λb=>v= .str b) (by cases v<;>first|exact trivial|exact rfl) h
noncomputable def wD(v:U):Option (List U):=U.casesOn v none (λ_=>none) (λ_=>none) (λ_=>none) (λ_=>none) (λ_=>none) (λ_=>none) (λ_=>none) (λ_=>none) some (λ_ _=>none) (λ_ _=>none) none
theorem AW{v:U}{b:List U}(h:wD v=some b):v= .tup b:=fF (P:=λb=>v= .tup b) (by cases v<;>first|exact trivial|exact rfl) h
noncomputable def Ca(r:List U):Option Bool:=List.casesOn r (some false) λa r'=>List.casesOn r' (DW a) λ_ _=>none
theorem NA{v:U}{b:Bool}(h:DW v=some b):v= .bool b:=fF (P:=λb=>v= .bool b) (by cases v<;>first|exact trivial|exact rfl) h
theorem Iw{r:List U}{o:Bool}(h:Ca r=some o):(r=[]/\o=false)\/r=[.bool o]:=by
 cases r with
 |nil=>exact .inl ⟨rfl,(Option.some.inj h).symm⟩
 |cons a r=>cases r with
  |nil=>exact .inr (by rw[NA h])
  |cons=>cases h
noncomputable def okN(n:Nat):Bool:=Nat.beq n 2||(Nat.beq n 3||Nat.beq n 5)
noncomputable def CZ(x:List Str)(r:List U):Option (Str->Bool):=Option.casesOn (Ca r) none λo=>cond (okN x.length) (some λc=>eqs c x==o) none
noncomputable def setB(v:U)(r:List U):Option (Str->Bool):=Option.casesOn (hU v) (Option.casesOn (wD v) none λxs=>Option.casesOn (strsOf xs) none λys=>CZ ys r) λy=>List.casesOn r (some λx=>Txt.contains y x==false) λ_ _=>none
noncomputable def setOf(args:List U):Option (Str->Bool):=List.casesOn args none λa r=>List.casesOn r none λb r=>cond (kT 3 a) (setB b r) none
theorem C0{ys:List Str}{o:Bool}(h:okN ys.length=true):j7 (.tup (ys.map .str)) (.bool o) (λx=>eqs x ys==o):=by
 rcases ys with _|⟨a,_|⟨b,_|⟨c,_|⟨d,_|⟨e,_|⟨_,_⟩⟩⟩⟩⟩⟩<;>first
  |(cases h;done)
  |exactλr xs e=>by kernel_rfl
theorem Sc(y:Str):j7 (.str y) (.bool false) (λx=>Txt.contains y x==false):=λr xs e=>by kernel_rfl
theorem F0{xs:List U}:∀{ys:List Str},strsOf xs=some ys->xs=ys.map .str:=by
 induction xs with
 |nil=>intro ys h;cases h;rfl
 |cons x xs ih=>
  intro ys
  exact fF (P:=λys=>x::xs=List.map U.str ys) (by
   cases x<;>first
    |exact trivial
    |(show Option.elim ((strsOf xs).map _) True _
      cases q:strsOf xs with
      |none=>exact trivial
      |some zs=>exact congrArg (_::·) (ih q)))
inductive pA:List U->(Str->Bool)->Prop
 |two {ch:U} {Q:Str->Bool} (h:j7 ch (.bool false) Q) (f:cm k8 [.obj 3,ch]=true):pA [.obj 3,ch] Q
 |three {ch:U} {o:Bool} {Q:Str->Bool} (h:j7 ch (.bool o) Q) (f:cm k8 [.obj 3,ch]=true):pA [.obj 3,ch, .bool o] Q
theorem F1{ks:List Nat}{ys:List Str}:cm ks (ys.map .str)=true:=by
 induction ys with
 |nil=>rfl
 |cons y ys ih=>exact ih
theorem Le{ys:List Str}{r:List U}{Q:Str->Bool}(h:CZ ys r=some Q):pA (.obj 3:: .tup (ys.map .str)::r) Q:=by
 obtain⟨o,e,k⟩:=fk h
 cases q:okN ys.length with
 |false=>rw[q]at k;cases k
 |true=>
  rw[q]at k
  cases k
  have f:cm k8 [.obj 3, .tup (ys.map .str)]=true:=Bool.and_eq_true_iff.mpr ⟨rfl,Bool.and_eq_true_iff.mpr ⟨F1,rfl⟩⟩
  rcases Iw e with⟨rfl,rfl⟩|rfl
  ·exact .two (C0 q) f
  ·exact .three (C0 q) f
theorem Lf{b:U}{r:List U}{Q:Str->Bool}(h:setB b r=some Q):pA (.obj 3::b::r) Q:=by
 unfold setB at h
 cases q:hU b with
 |some y=>
  rw[q]at h
  rw[rB q]
  cases r with
  |nil=>cases h;exact .two (Sc y) rfl
  |cons=>cases h
 |none=>
  rw[q]at h
  obtain⟨xs,e,h⟩:=fk h
  obtain⟨ys,V,h⟩:=fk h
  rw[AW e,F0 V]
  exact Le h
theorem Iy{args:List U}{Q:Str->Bool}(h:setOf args=some Q):pA args Q:=by
 cases args with
 |nil=>cases h
 |cons a r=>cases r with
  |nil=>cases h
  |cons b r=>
   have h:cond (kT 3 a) (setB b r) none=some Q:=h
   cases q:kT 3 a with
   |false=>rw[q]at h;cases h
   |true=>rw[q]at h;rw[u3 q];exact Lf h
noncomputable def Bo(Q:Str->Bool)(r:RS):Nat:=runN (λc=>Q (one c)) ((cps r.T).drop (ef r))
noncomputable def eS(Q:Str->Bool)(r:RS):Str:=aV r.T (ef r) (ef r+Bo Q r)
noncomputable def vt(args:List U)(r:RS):DT (U×RS):=Option.casesOn (setOf args) .fail λQ=> .test (ah r) (.leaf (.str (eS Q r),eD (λc=>Q (one c)) r)) .fail
theorem zw{ch op:U}{Q:Str->Bool}{r:RS}(V:j7 ch op Q)(h:ah r=true):(finish (aB (bf H3 40 156 []).St im (z3 ch op r))).Holds λo=>∃junk,o=(.str (eS Q r),⟨[],cR (eD (λc=>Q (one c)) r) junk⟩):=by
 obtain⟨p,s,o,hr⟩:=vr h
 obtain⟨es,junk,he⟩:=FZ V hr
 have h2:=Ny ch op r
 rw[he]at h2
 exact DT.du (jQ h2 (.inl rfl)) ⟨junk,rfl⟩
theorem GE(args:List U)(r:RS)(v:U)(r':RS)(h:(vt args r).eval=some (v,r')):cm k8 args=true/\fR v=true/\(aL S1 H3 3000 40 156 args ⟨[],cR r []⟩).Holds λo=>∃junk,o=(v,⟨[],cR r' junk⟩):=by
 unfold vt at h
 cases q:setOf args with
 |none=>rw[q]at h;cases h
 |some Q=>
  rw[q]at h
  cases q2:ah r with
  |false=>exact nomatch (show cond (ah r) _ _=some _ from h).symm.trans (congrArg (cond · _ _) q2)
  |true=>
   have h:=(congrArg (cond · (some (U.str (eS Q r),eD (λc=>Q (one c)) r)) none) q2).symm.trans h
   cases h
   cases Iy q with
   |two h f=>exact⟨f,rfl,by rw[Pw];exact zw h q2⟩
   |three h f=>exact⟨f,rfl,by rw[Nz];exact zw h q2⟩
theorem NB(fs:List AO)(a0 a1:AO)(r:RS)(rest:List AO):(aL S1 H3 3000 40 126 [.obj 3] ⟨fs,aT a0 a1 r rest⟩).run [true]=
 some ([true],(.tup [.int (gB r r.off+1), .int (gE r r.off)],⟨fs,aT a0 a1 r rest⟩)):=by kernel_rfl
noncomputable def Cb(args:List U):EM U:=List.casesOn args ae λa r=>List.casesOn r (bo (kT 3 a) (kj [.obj 3] λr z=> .leaf (.tup [.int (gB r r.off+1), .int (gE r r.off)],z)) ae) λ_ _=>ae
theorem Iz(args:List U)(z:ES)(Q:U×ES->Prop)(h:(Cb args z).Holds Q):(aL S1 H3 3000 40 126 args z).Holds Q:=by
 rcases args with _|⟨a,_|⟨_,_⟩⟩
 ·exact h.elim
 ·refine bP (P:=λT=>T.Holds Q->_) (λq k=> ?_) (λ_=>False.elim) h
  clear h
  cases u3 q
  obtain⟨r,a0,a1,rest,e,hk⟩:=lG k
  rw[e]
  have he:=DT.aQ (NB z.fs a0 a1 r rest) rfl
  generalize aL S1 H3 3000 40 126 [.obj 3] ⟨z.fs,aT a0 a1 r rest⟩=t at he⊢
  exact DT.du he hk
 ·exact h.elim
section
variable{C:Cx}{n:Nat}{H:Addr->List U->EM U}
noncomputable def jk(g:Addr)(sum:List U->DT PyData)(H:Addr->List U->EM U):Addr->List U->EM U:=λf args=>bo (Nat.beq f g) (λz=>(sum args).bind λd=> .leaf (bZ d,z)) (H f args)
theorem uA{g:Addr}{sum:List U->DT PyData}(V:ba C n H)(h:∀args d,(sum args).eval=some d->args.all fR=true/\(H g args ⟨[],[]⟩).Holds λr=>∃m,cS r.2.os m r.1=some d):ba C n (jk g sum H):=by
 intro A a1 a2 a3 f args vals W z s X hr
 refine bP (λq Q Y=> ?_) λ_=>V A a1 a2 a3 f args vals W z s X hr
 obtain⟨d,hd,Z⟩:=DT.yS (DT.bK Y)
 refine Ih (g:=g) (sum:=λargs=>(sum args).eval) V h A a1 a2 a3 f args vals W z s X hr Q ?_
 unfold B2 bo
 rw[q]
 show(lT (sum args).eval (λd=>ak (bZ d)) (H f args) z).Holds Q
 rw[hd]
 exact Z
end
theorem zx{asg:U->EM Unit}{t:EM Bool}{e:EM U}{l:Nat}{xs:List U}(st:Nat->ES)(h:∀i x,xs[i]?=some x->∃X b W,(asg x (st i)).eval=some ((),X)/\(t X).eval=some (b,W)/\
 (b=true->∃y Y,(e W).eval=some (y,Y)/\(app l y Y).eval=some ((),st (i+1)))/\(b=false->W=st (i+1)))(n:Nat):
 ∀i,xs.length<n+i->i<=xs.length->(dG asg t e l (.fixed xs) n i (st i)).eval=some ((),st xs.length):=by
 induction n with
 |zero=>exactλi V h2=>(Nat.not_lt.mpr h2 (Nat.zero_add i▸V)).elim
 |succ n ih=>
  intro i V h2
  show(((λo=>match o with
   |none=>ak ()
   |some x=>bd (asg x) λ_=>bd t λok=>aE ok
    (bd e λy=>bd (app l y) λ_=>dG asg t e l (.fixed xs) n (i+1))
    (dG asg t e l (.fixed xs) n (i+1)):Option U->EM Unit) xs[i]?) (st i)).eval=_
  cases ho:xs[i]?with
  |none=>exact congrArg (λk=>some ((),st k)) (Nat.le_antisymm h2 (List.getElem?_eq_none_iff.mp ho))
  |some x=>
   obtain⟨X,b,W,k1,k2,Z,J⟩:=h i x ho
   have ih:=ih (i+1) (Nat.lt_of_lt_of_eq V (Nat.succ_add_eq_add_succ n i)) (List.getElem?_eq_some_iff.mp ho).1
   refine(DT.aC k1).trans ((DT.aC k2).trans ?_)
   cases b with
   |true=>
    obtain⟨y,Y,e1,e2⟩:=Z rfl
    exact(DT.aC e1).trans ((DT.aC e2).trans ih)
   |false=>cases J rfl;exact ih
noncomputable def Lg:Stmt->PySem.Expr
 | .Return (some e) _=>e
 |_=>E0
noncomputable def u9:PySem.Expr->PySem.Expr
 | .Call _ (a::_) _ _=>a
 |_=>E0
noncomputable def IB:PySem.Expr->Option (PySem.Expr×PySem.Expr×PySem.Expr×List PySem.Expr×Scope)
 | .ListComp elt [⟨tg,it,ifs,0⟩] scope _=>some (elt,tg,it,ifs,scope)
 |_=>none
noncomputable def fp(e:PySem.Expr):PySem.Expr×PySem.Expr×PySem.Expr×List PySem.Expr×Scope:=(IB e).getD (E0,E0,E0,[],⟨.function,[],false,false,[]⟩)
noncomputable def aI(c:Nat):Nat:=cond (Nat.ble 65 c&&Nat.ble c 90) (c+32) c
noncomputable def aX(x:Str):Str:=⟨((cps x).map aI).toArray⟩
noncomputable def eU(x:Str):Bool:=c7 x&&Nat.blt x.length 3000
noncomputable def cmp(f:Addr):PySem.Expr:=u9 (Lg (aH (aW f).body 0))
noncomputable def DX(f:Addr):Scope:=cw (fp (cmp f)).2.2.2.2 (aW f).scope
noncomputable def DY(f:Addr):CL:=bW [] (fp (cmp f)).2.2.2.2.names
noncomputable def xL(H:Addr->List U->EM U)(n:Nat)(f:Addr):IH:=bM S1 H 3000 n (DX f) (DY f)
noncomputable def pD(H:Addr->List U->EM U)(n:Nat)(f:Addr):U->EM Unit:=bv S1 (DX f) (DY f) (xL H n f).E (fp (cmp f)).2.1
noncomputable def cT(H:Addr->List U->EM U)(n:Nat)(f:Addr):EM Bool:=eB (xL H n f).T (fp (cmp f)).2.2.2.1
noncomputable def cE(H:Addr->List U->EM U)(n:Nat)(f:Addr):EM U:=(xL H n f).E (fp (cmp f)).1
noncomputable def DZ:Unit×ES->DT (U×ES):=λr=> .leaf (.obj 0,r.2)
noncomputable def D3(H:Addr->List U->EM U)(f:Addr):U×ES->DT (List U×ES):=λr=>(bd (dw (bf H 38 f []).E []) λvs=>ak (r.1::vs)) r.2
noncomputable def xM(H:Addr->List U->EM U):List U×ES->DT (U×ES):=λr=>cO S1 H (.bi .join) ([.str ""]++r.1) r.2
noncomputable def D4:U×ES->DT (FL×ES):=λr=> .leaf (.ret r.1,r.2)
structure sw(f:Addr):Prop where
 eq:∀x,aL S1 H0 3000 40 f [.str x] ⟨[],[]⟩=finish ((((((eP [] (dG (pD H0 37 f) (cT H0 37 f) (cE H0 37 f) 0 (.fixed (chars x)) 3000 0) ⟨[.frame [("text", .str x)]],[.list []]⟩).bind DZ).bind (D3 H0 f)).bind (xM H0)).bind D4).bind (gw (bf H0 40 f []).St []))
 a:∀x acc,cH.map (λc=>(pD H0 37 f (.str (one c)) ⟨[.frame [], .frame [("text", .str x)]],[.list acc]⟩).eval)=cH.map (λc=>some ((),(⟨[.frame [("c", .str (one c))], .frame [("text", .str x)]],[.list acc]⟩:ES)))
 b:∀x a acc,cH.map (λc=>(pD H0 37 f (.str (one c)) ⟨[.frame [("c",a)], .frame [("text", .str x)]],[.list acc]⟩).eval)=cH.map (λc=>some ((),(⟨[.frame [("c", .str (one c))], .frame [("text", .str x)]],[.list acc]⟩:ES)))
 t:∀z,cT H0 37 f z= .leaf (true,z)
 c:∀x acc,cH.map (λc=>(cE H0 37 f ⟨[.frame [("c", .str (one c))], .frame [("text", .str x)]],[.list acc]⟩).eval)=cH.map (λc=>some (.str (one (aI c)),(⟨[.frame [("c", .str (one c))], .frame [("text", .str x)]],[.list acc]⟩:ES)))
theorem NC:sw 42:=⟨λx=>by kernel_rfl,λx acc=>by kernel_rfl,λx a acc=>by kernel_rfl,λz=>by kernel_rfl,λx acc=>by kernel_rfl⟩
theorem Lh:sw 787:=⟨λx=>by kernel_rfl,λx acc=>by kernel_rfl,λx a acc=>by kernel_rfl,λz=>by kernel_rfl,λx acc=>by kernel_rfl⟩
theorem yX(ys:List Str):strsOf (ys.map U.str)=some ys:=by
 induction ys with
 |nil=>rfl
 |cons x r ih=>exact congrArg (Option.map (x::·)) ih
theorem join_ones(l:List Nat):Txt.join "" (l.map one)=⟨l.toArray⟩:=by
 have key:∀(l:List Nat) (acc:Array Nat),(l.map one).foldl (λacc p=>acc++(Str.ofString "").cps++p.cps) acc=acc++l.toArray:=by
  intro l
  induction l with
  |nil=>intro acc;simp
  |cons c l ih=>
   intro acc
   rw[List.map_cons,List.foldl_cons,ih]
   show acc++#[]++#[c]++l.toArray=_
   simp
 cases l with
 |nil=>rfl
 |cons c l=>
  show(⟨(l.map one).foldl (λacc p=>acc++(Str.ofString "").cps++p.cps) #[c]⟩:Str)=_
  rw[key]
  simp
theorem Fy{l:List Nat}(h:l.length<=3000):JoinOk "" (l.map one)=true:=by
 refine joinOk_of_weight ?_ (by decide)
 have:((l.map one).map (·.length)).sum=l.length:=by
  induction l with
  |nil=>rfl
  |cons c l ih=>rw[List.map_cons,List.map_cons,List.sum_cons,ih (by simp at h;lia)];show 1+l.length=l.length+1;lia
 rw[this,List.length_map];lia
theorem IC{H:Addr->List U->EM U}{fs:List AO}{l:List Nat}(h:l.length<=3000):(xM H ([.obj 0],⟨fs,[.list ((l.map one).map U.str)]⟩)).eval=some (.str ⟨l.toArray⟩,⟨fs,[.list ((l.map one).map U.str)]⟩):=by
 show(bl (strsOf ((l.map one).map U.str)) (λys=>aE (JoinOk "" ys) (ak (U.str (Txt.join "" ys))) ae) (⟨fs,[.list ((l.map one).map U.str)]⟩:ES)).eval=_
 rw[yX]
 show(DT.test (JoinOk "" (l.map one)) (.leaf (U.str (Txt.join "" (l.map one)),⟨fs,[.list ((l.map one).map U.str)]⟩)) .fail:DT (U×ES)).eval=_
 rw[Fy h,join_ones];rfl
noncomputable def C1(v:U)(f:Str->DT α):DT α:=U.casesOn v .fail (λ_=> .fail) (λ_=> .fail) f (λ_=> .fail) (λ_=> .fail) (λ_=> .fail) (λ_=> .fail) (λ_=> .fail) (λ_=> .fail) (λ_ _=> .fail) (λ_ _=> .fail) .fail
theorem Li{v:U}{f:Str->DT α}{a:α}(h:(C1 v f).eval=some a):∃x,v= .str x/\(f x).eval=some a:=by
 cases v with
 |str x=>exact⟨x,rfl,h⟩
 |_=>cases h
theorem Lj{b:Bool}{t:DT α}{a:α}(h:(DT.test b t .fail).eval=some a):b=true/\t.eval=some a:=by
 cases b with
 |true=>exact⟨rfl,h⟩
 |false=>cases h
noncomputable def vw(args:List U):DT PyData:=List.casesOn args .fail λa r=>List.casesOn r (C1 a λx=> .test (eU x) (.leaf (PyData.str (aX x))) .fail) λ_ _=> .fail
noncomputable def C2(x:Str)(i:Nat):ES:=match i with
 |0=>⟨[.frame [], .frame [("text", .str x)]],[.list []]⟩
 |i+1=>⟨[.frame [("c", .str (one ((cps x).getD i 0)))], .frame [("text", .str x)]],[.list ((((cps x).take (i+1)).map aI).map one|>.map U.str)]⟩
theorem GF{f:Addr}(L:sw f){x:Str}(V:c7 x=true)(h2:x.length<3000):(aL S1 H0 3000 40 f [.str x] ⟨[],[]⟩).eval=some (.str (aX x),⟨[],[.list ((((cps x).map aI).map one).map U.str)]⟩):=by
 have hlen:(cps x).length=x.length:=Array.length_toList
 have run:=zx (asg:=pD H0 37 f) (t:=cT H0 37 f) (e:=cE H0 37 f) (l:=0) (xs:=chars x) (C2 x) (λi a ha=>by
  obtain⟨c,W,rfl⟩:=yU ha
  have W:(cps x)[i]?=some c:=W
  have good:c∈cH:=ug (List.all_eq_true.mp V c (List.mem_of_getElem? W))
  have Y:=(List.getElem?_eq_some_iff.mp W).1
  refine⟨⟨[.frame [("c", .str (one c))], .frame [("text", .str x)]],[.list ((((cps x).take i).map aI).map one|>.map U.str)]⟩,true,_, ?_,by rw[L.t];rfl,λ_=>⟨.str (one (aI c)),_,fQ (L.c x _) c good, ?_⟩,λe=>by cases e⟩
  ·cases i with
   |zero=>exact fQ (L.a x []) c good
   |succ i=>exact fQ (L.b x _ _) c good
  ·show(DT.test (fits _) (.leaf ((),⟨_,[.list (_++[_])]⟩)) .fail:DT (Unit×ES)).eval=some ((),⟨[.frame [("c", .str (one ((cps x).getD i 0)))], .frame [("text", .str x)]],[.list ((((cps x).take (i+1)).map aI).map one|>.map U.str)]⟩)
   rw[bq (by rw[List.length_map,List.length_map,List.length_map,List.length_take];lia),List.getD_eq_getElem?_getD,W,List.take_add_one,W,List.map_append,List.map_append,List.map_append]
   rfl) 3000 0 (by unfold chars;rw[List.length_map];exact hlen▸h2) (Nat.zero_le _)
 rw[show(chars x).length=(cps x).length from List.length_map ..]at run
 obtain⟨es,X⟩:∃es,C2 x (cps x).length=⟨[.frame es, .frame [("text", .str x)]],[.list ((((cps x).map aI).map one).map U.str)]⟩:=by
  cases q:(cps x).length with
  |zero=>rw[List.length_eq_zero_iff.mp q];exact⟨_,rfl⟩
  |succ k=>exact⟨_,by show(⟨_,[.list ((((cps x).take (k+1)).map aI).map one|>.map U.str)]⟩:ES)=_;rw[List.take_of_length_le (Nat.le_of_eq q)]⟩
 rw[X]at run
 rw[L.eq]
 refine jQ (fl:= .ret (.str (aX x))) (es:=[("text", .str x)]) ?_ (.inl rfl)
 have s1:(eP [] (dG (pD H0 37 f) (cT H0 37 f) (cE H0 37 f) 0 (.fixed (chars x)) 3000 0) ⟨[.frame [("text", .str x)]],[.list []]⟩).eval=some ((),⟨[.frame [("text", .str x)]],[.list ((((cps x).map aI).map one).map U.str)]⟩):=DT.aC run
 have s2:=(DT.aC (k:=DZ) s1).trans rfl
 have s3:=(DT.aC (k:=D3 H0 f) s2).trans rfl
 have s4:=(DT.aC (k:=xM H0) s3).trans (IC (by rw[List.length_map,hlen];exact Nat.le_of_lt h2))
 have s5:=(DT.aC (k:=D4) s4).trans rfl
 exact DT.aC s5
theorem AX{f:Addr}(L:sw f)(args:List U)(d:PyData)(h:(vw args).eval=some d):args.all fR=true/\(aL S1 H0 3000 40 f args ⟨[],[]⟩).Holds λr=>∃m,cS r.2.os m r.1=some d:=by
 rcases args with _|⟨a,_|⟨_,_⟩⟩
 ·cases h
 ·obtain⟨x,rfl,h⟩:=Li h
  obtain⟨q,h⟩:=Lj h
  cases h
  obtain⟨V,q2⟩:=Bool.and_eq_true_iff.mp q
  exact⟨rfl,DT.du (GF L V (Nat.blt_eq.mp q2)) ⟨1,rfl⟩⟩
 ·cases h
noncomputable def ID:=AX NC
noncomputable def GG:=AX Lh
theorem ND{S:ST}{H:Addr->List U->EM U}{N n:Nat}{sc:Scope}{cl:CL}{t:PySem.Expr}{b e:List Stmt}{p:Pos}:
 (bM S H N (n+1) sc cl).St (.If t b e p)=bd ((bM S H N n sc cl).T t) λc=>aE c (aB (bM S H N n sc cl).St b) (aB (bM S H N n sc cl).St e):=rfl
noncomputable def mV:Stmt->Option (PySem.Expr×List Stmt×List Stmt×Pos)
 | .If t b e p=>some (t,b,e,p)
 |_=>none
noncomputable def dp(s:Stmt):PySem.Expr:=match mV s with|some p=>p.1|none=>E0
noncomputable def dC(s:Stmt):List Stmt:=match mV s with|some p=>p.2.1|none=>[]
noncomputable def gb(s:Stmt):List Stmt:=match mV s with|some p=>p.2.2.1|none=>[]
noncomputable def D5(s:Stmt):Pos:=match mV s with|some p=>p.2.2.2|none=>p0
theorem Cc{s:Stmt}(h:(mV s).isSome=true):s= .If (dp s) (dC s) (gb s) (D5 s):=l8 (b:=(mV s).isSome) (by cases s<;>first|exact trivial|exact rfl) h
noncomputable def IE:PySem.Expr->List PySem.Expr
 | .BoolOp _ es _=>es
 |_=>[]
noncomputable def nI(l:List PySem.Expr)(i:Nat):PySem.Expr:=l.getD i E0
noncomputable def cI:Stmt:=aH (aW 794).body 0
noncomputable def v4(l:Nat)(p:Str):List (Str×U):=[("row", .obj l),("piece", .str p)]
noncomputable def aZ(l:Nat)(p:Str)(fs os:List AO):ES:=⟨.frame (v4 l p)::fs,os⟩
section
variable{l:Nat}{p:Str}{fs os:List AO}
noncomputable def lU(i:Nat):EM Bool:=(bf H0 38 794 []).T (nI (IE (dp cI)) i)
theorem NE:lU 0 (aZ l p fs os)=jg (.str p) (aZ l p fs os):=by kernel_rfl
theorem NF:lU 1 (aZ l p fs os)=jg (.obj l) (aZ l p fs os):=by kernel_rfl
theorem NG:lU 2 (aZ l p fs os)=(bd (bd (cG S1 (.obj l) (.int (-1))) λv=>cG S1 v (.int 0)) λv=>ft .Eq v (.str "text")) (aZ l p fs os):=by kernel_rfl
theorem Py:(bf H0 39 794 []).T (dp cI)=bd (lU 0) λb=>aE b (bd (lU 1) λb=>aE b (bd (lU 2) λb=>aE b (ak true) (ak false)) (ak false)) (ak false):=by kernel_rfl
noncomputable def cf:Stmt->PySem.Expr
 | .Assign _ v _=>v
 |_=>E0
noncomputable def g7:Stmt->PySem.Expr
 | .Assign [t] _ _=>t
 |_=>E0
noncomputable def sx:PySem.Expr->List PySem.Expr
 | .Tuple es _ _=>es
 |_=>[]
noncomputable def jq:PySem.Expr->PySem.Expr
 | .BinOp a _ _ _=>a
 |_=>E0
noncomputable def kW:PySem.Expr->PySem.Expr
 | .BinOp _ _ b _=>b
 |_=>E0
noncomputable def rC:Stmt->List PySem.Expr
 | .Expr (.Call _ as _ _) _=>as
 |_=>[]
noncomputable def sA:Stmt:=aH (dC cI) 0
noncomputable def nJ:PySem.Expr:=nI (sx (cf sA)) 1
theorem NH:aB (bf H0 39 794 []).St (dC cI)=bd (bd ((bf H0 38 794 []).E (cf sA)) λa=>bd (bv S1 (aW 794).scope [] (bf H0 38 794 []).E (g7 sA) a) λ_=>ak FL.next) λx=>l9 (ak FL.next) x:=by kernel_rfl
theorem NI:(bf H0 38 794 []).E (cf sA) (aZ l p fs os)=(bd (bd (bd ((bf H0 37 794 []).E nJ) λv=>ak [v]) λvs=>ak (U.str "text"::vs)) λvs=>aE (fits vs.length) (ak (.tup vs)) ae) (aZ l p fs os):=by kernel_rfl
theorem NJ:(bf H0 37 794 []).E nJ (aZ l p fs os)=(bd (bd (cG S1 (.obj l) (.int (-1))) λv=>cG S1 v (.int 1)) λx=>bd ((bf H0 36 794 []).E (kW nJ)) λy=>jn .Add x y) (aZ l p fs os):=by kernel_rfl
theorem NK:(bf H0 36 794 []).E (kW nJ) (aZ l p fs os)= .leaf (.str p,aZ l p fs os):=by kernel_rfl
theorem NL{a:U}:bv S1 (aW 794).scope [] (bf H0 38 794 []).E (g7 sA) a (aZ l p fs os)=oB (.obj l) (.int (-1)) a (aZ l p fs os):=by kernel_rfl
theorem NM:aB (bf H0 39 794 []).St (gb cI) (aZ l p fs os)=(bd (bd (jg (.str p)) λb=>aE b (aB (bf H0 38 794 []).St (dC (aH (gb cI) 0))) (ak FL.next)) λx=>l9 (ak FL.next) x) (aZ l p fs os):=by kernel_rfl
theorem NN:aB (bf H0 38 794 []).St (dC (aH (gb cI) 0)) (aZ l p fs os)=(bd (bd (bd (vM S1 (.obj l) "append") λc=>bd (dw (bf H0 36 794 []).E (rC (aH (dC (aH (gb cI) 0)) 0))) λvs=>cO S1 H0 c.1 (c.2++vs)) λ_=>ak FL.next) λx=>l9 (ak FL.next) x) (aZ l p fs os):=by kernel_rfl
theorem NO:dw (bf H0 36 794 []).E (rC (aH (dC (aH (gb cI) 0)) 0)) (aZ l p fs os)= .test true (.leaf ([.tup [.str "text", .str p]],aZ l p fs os)) .fail:=by kernel_rfl
theorem Lk:cI= .If (dp cI) (dC cI) (gb cI) (D5 cI):=Cc (by kernel_rfl)
theorem Sd:(aW 794).body=[cI]:=by kernel_rfl
theorem Ll:aL S1 H0 3000 40 794 [.obj l, .str p] ⟨fs,os⟩=finish (aB (bf H0 40 794 []).St (aW 794).body (aZ l p fs os)):=
 oE (fi:=aW 794) (bs:=v4 l p) (by kernel_rfl) (by kernel_rfl) (by kernel_rfl) (by kernel_rfl)
theorem IF:aB (bf H0 40 794 []).St (aW 794).body (aZ l p fs os)=
 ((bd ((bf H0 39 794 []).T (dp cI)) λc=>aE c (aB (bf H0 39 794 []).St (dC cI)) (aB (bf H0 39 794 []).St (gb cI))) (aZ l p fs os)).bind (gw (bf H0 40 794 []).St []):=by
 conv=>lhs;rw[Sd,ik,Lk]
 rfl
end
theorem mW{α:Type}{l:Nat}{o:AO}{k:AO->EM α}{z:ES}(h:z.os[l]?=some o):get' l k z=k o z:=by unfold get' bl;rw[h]
theorem iw{α:Type}{l:Nat}{xs:List U}{k:List U->EM α}{z:ES}(h:z.os[l]?=some (.list xs)):gL l k z=k xs z:=mW h
noncomputable def cA(p:Str):U:= .tup [.str "text", .str p]
noncomputable def four(r:List U):Bool:=List.casesOn r true λ_ r=>List.casesOn r false λ_ r=>List.casesOn r true λ_ _=>false
noncomputable def Pz(xs:List U):Option (Str×Str):=List.casesOn xs none λa r=>List.casesOn r none λb r=>cond (four r) (Option.casesOn (hU a) none λx=>Option.casesOn (hU b) none λy=>some (x,y)) none
noncomputable def o5(v:U):Option (Str×Str):=Option.casesOn (wD v) none Pz
inductive tp(t y:Str):U->Prop
 |two:tp t y (.tup [.str t, .str y])
 |four (c d:U):tp t y (.tup [.str t, .str y,c,d])
theorem IG{v:U}{q:Str×Str}(h:o5 v=some q):tp q.1 q.2 v:=by
 obtain⟨xs,e,h⟩:=fk h
 rw[AW e]
 cases xs with
 |nil=>cases h
 |cons a r=>cases r with
  |nil=>cases h
  |cons b r=>
   have h:cond (four r) (Option.casesOn (hU a) none λx=>Option.casesOn (hU b) none λy=>some (x,y)) none=some q:=h
   cases hf:four r with
   |false=>rw[hf]at h;cases h
   |true=>
    rw[hf]at h
    obtain⟨x,e,h⟩:=fk (o:=hU a) h
    obtain⟨y,V,h⟩:=fk (o:=hU b) h
    cases h
    rw[rB e,rB V]
    rcases r with _|⟨c,_|⟨d,_|_⟩⟩
    ·exact .two
    ·cases hf
    ·exact .four c d
    ·cases hf
noncomputable def gX(xs:List U):Option (Str×Str):=Option.casesOn xs.getLast? none o5
noncomputable def cb(xs:List U)(p:Str):List U:=cond (Nat.beq p.length 0) xs (Option.casesOn (gX xs) (xs++[cA p]) λq=>cond (decide (q.1="text")) (xs.set (xs.length-1) (cA (q.2++p))) (xs++[cA p]))
noncomputable def eE(xs:List U)(p:Str):Bool:=fits p.length&&(fits xs.length&&(xs.isEmpty||Option.casesOn (gX xs) false λq=>fits q.2.length))
theorem C3{n:Nat}(h:¬n=0):Nat.beq n 0=false:=by
 cases n with
 |zero=>exact absurd rfl h
 |succ n=>rfl
section
variable{l:Nat}{p:Str}{fs os:List AO}{xs:List U}
theorem yY{n:Nat}(h:1<=n):place (-1) n=n-1:=by
 unfold place
 rw[if_pos (by decide)];lia
theorem yr{n:Nat}(h:1<=n):cy (-1) n=true:=by
 unfold cy
 rw[if_pos (by decide)];exact decide_eq_true (by lia)
theorem item_last{z:ES}(hx:z.os[l]?=some (.list xs)){a:U}(ha:xs.getLast?=some a)(hf:fits xs.length=true):(cG S1 (.obj l) (.int (-1)) z).eval=some (a,z):=by
 have V:1<=xs.length:=List.length_pos_iff.mpr λe=>by rw[e]at ha;cases ha
 show(gL l _ z).eval=_
 rw[iw hx,yY V]
 show(bl xs[xs.length-1]? _ z).eval=_
 rw[<-List.getLast?_eq_getElem?,ha]
 show cond (fits xs.length&&cy (-1) xs.length) _ _=_
 rw[hf,yr V];rfl
theorem F5{z:ES}(hx:z.os[l]?=some (.list xs))(hf:fits xs.length=true):(jg (.obj l) z).eval=some (!xs.isEmpty,z):=by
 show(get' l _ z).eval=_
 rw[mW hx]
 show cond (fits xs.length) _ _=_
 rw[hf];rfl
theorem truthy_str{z:ES}(hf:fits p.length=true):(jg (.str p) z).eval=some (decide (p.length≠0),z):=by
 show cond (fits p.length) _ _=_
 rw[hf];rfl
noncomputable def lV(xs:List U)(p:Str):Bool:= !Nat.beq p.length 0&&Option.casesOn (gX xs) false λq=>decide (q.1="text")
inductive Last(xs:List U):Prop
 |nil (h:xs=[])
 |pair (t y:Str) (v:U) (h:xs.getLast?=some v) (hv:tp t y v) (h':gX xs=some (t,y)) (hy:fits y.length=true)
structure sy(xs:List U)(p:Str):Prop where
 V:fits p.length=true
 h2:fits xs.length=true
 h3:Last xs
theorem wE(hk:eE xs p=true):sy xs p:=by
 obtain⟨V,hk⟩:=Bool.and_eq_true_iff.mp hk
 obtain⟨h2,hk⟩:=Bool.and_eq_true_iff.mp hk
 refine⟨V,h2, ?_⟩
 cases hl:gX xs with
 |none=>cases xs with
  |nil=>exact .nil rfl
  |cons=>rw[hl]at hk;cases hk
 |some q=>
  obtain⟨a,e,h⟩:=fk hl
  rw[hl]at hk
  refine .pair q.1 q.2 a e (IG h) hl ((Bool.or_eq_true_iff.mp hk).resolve_left λq=> ?_)
  cases xs with
  |nil=>cases e
  |cons=>cases q
theorem II(hx:os[l]?=some (.list xs))(hk:sy xs p):((bf H0 39 794 []).T (dp cI) (aZ l p fs os)).eval=some (lV xs p,aZ l p fs os):=by
 rw[Py]
 refine(DT.aC (NE▸truthy_str hk.V)).trans ?_
 show cond (decide (p.length≠0)) (DT.bind (lU 1 (aZ l p fs os)) _).eval (some (false,aZ l p fs os))=_
 unfold lV
 by_cases hp:p.length=0
 ·rw[decide_eq_false (λh=>h hp),hp];rfl
 ·rw[decide_eq_true hp,C3 hp]
  refine(DT.aC (NF▸F5 hx hk.h2)).trans ?_
  cases hk.h3 with
  |nil h=>rw[h];rfl
  |pair t y v h hv h' hy=>
   rw[h',show xs.isEmpty=false from Bool.eq_false_iff.mpr λq=>by rw[List.isEmpty_iff.mp q]at h;cases h]
   refine(DT.aC (a:=(decide (t="text"),aZ l p fs os)) ?_).trans ?_
   ·rw[NG]
    exact(DT.aC ((DT.aC (item_last hx h hk.h2)).trans (c:=some (.str t,aZ l p fs os)) (by cases hv<;>rfl))).trans rfl
   ·show cond (decide (t="text")) (some (true,_)) (some (false,_))=some (decide (t="text"),_)
    cases decide (t="text")<;>rfl
theorem Lm(hx:os[l]?=some (.list xs))(hk:sy xs p)(hb:lV xs p=true):(aB (bf H0 39 794 []).St (dC cI) (aZ l p fs os)).eval=some (FL.next,aZ l p fs (os.set l (.list (cb xs p)))):=by
 obtain⟨W,U⟩:=Bool.and_eq_true_iff.mp hb
 cases hk.h3 with
 |nil h=>rw[h]at U;cases U
 |pair t y v h hv h' hy=>
  rw[h']at U
  have X:1<=xs.length:=List.length_pos_iff.mpr λe=>by rw[e]at h;cases h
  have e:((bf H0 37 794 []).E nJ (aZ l p fs os)).eval=some (.str (y++p),aZ l p fs os):=by
   rw[NJ]
   refine(DT.aC (a:=(.str y,aZ l p fs os)) ((DT.aC (item_last hx h hk.h2)).trans (by cases hv<;>rfl))).trans ?_
   show(DT.bind ((bf H0 36 794 []).E (kW nJ) (aZ l p fs os)) _).eval=_
   rw[NK]
   show cond (fits y.length&&fits p.length) _ _=_
   rw[hk.V,hy];rfl
  have e2:((bf H0 38 794 []).E (cf sA) (aZ l p fs os)).eval=some (cA (y++p),aZ l p fs os):=by
   rw[NI]
   exact(DT.aC (a:=([.str "text", .str (y++p)],aZ l p fs os)) ((DT.aC (a:=([.str (y++p)],aZ l p fs os)) ((DT.aC e).trans rfl)).trans rfl)).trans rfl
  have e3:(oB (.obj l) (.int (-1)) (cA (y++p)) (aZ l p fs os)).eval=some ((),aZ l p fs (os.set l (.list (xs.set (xs.length-1) (cA (y++p)))))):=by
   show(gL l _ (aZ l p fs os)).eval=_
   rw[iw (z:=aZ l p fs os) hx]
   show cond (fits xs.length&&cy (-1) xs.length) _ _=_
   rw[hk.h2,yr X,yY X];rfl
  have hs:cb xs p=xs.set (xs.length-1) (cA (y++p)):=by
   unfold cb
   rw[h',show Nat.beq p.length 0=false by cases q:Nat.beq p.length 0 with|true=>rw[q]at W;cases W|false=>rfl]
   exact congrArg (cond · _ _) U
  rw[NH,hs]
  exact(DT.aC (a:=(FL.next,aZ l p fs (os.set l (.list (xs.set (xs.length-1) (cA (y++p))))))) ((DT.aC e2).trans ((DT.aC (NL▸e3)).trans rfl))).trans rfl
theorem NP(hx:os[l]?=some (.list xs))(hk:sy xs p)(hb:lV xs p=false):(aB (bf H0 39 794 []).St (gb cI) (aZ l p fs os)).eval=some (FL.next,aZ l p fs (os.set l (.list (cb xs p)))):=by
 rw[NM]
 by_cases hp:p.length=0
 ·have hs:cb xs p=xs:=by unfold cb;rw[hp];rfl
  have U:os.set l (.list xs)=os:=by
   apply List.ext_getElem?
   intro i
   rw[List.getElem?_set]
   split
   ·rename_i e;subst e
    rw[if_pos (List.getElem?_eq_some_iff.mp hx).1]
    exact hx.symm
   ·rfl
  rw[hs,U]
  exact(DT.aC (a:=(FL.next,aZ l p fs os)) ((DT.aC (truthy_str hk.V)).trans (by rw[decide_eq_false (λh=>h hp)];rfl))).trans rfl
 ·have W:Nat.beq p.length 0=false:=C3 hp
  have hs:cb xs p=xs++[cA p]:=by
   unfold lV at hb
   unfold cb
   rw[W]at hb⊢
   cases q:gX xs with
   |none=>rfl
   |some X=>rw[q]at hb;exact congrArg (cond · _ _) hb
  have e1:(aB (bf H0 38 794 []).St (dC (aH (gb cI) 0)) (aZ l p fs os)).eval=some (FL.next,aZ l p fs (os.set l (.list (xs++[cA p])))):=by
   rw[NN]
   show(DT.bind (DT.bind (DT.bind (get' l _ (aZ l p fs os)) _) _) _).eval=_
   rw[mW (z:=aZ l p fs os) hx]
   show(DT.bind (DT.bind (DT.bind (dw (bf H0 36 794 []).E (rC (aH (dC (aH (gb cI) 0)) 0)) (aZ l p fs os)) (λr=>cO S1 H0 (.bi .append) ([.obj l]++r.1) r.2)) _) _).eval=_
   rw[NO]
   show(DT.bind (DT.bind (gL l _ (aZ l p fs os)) _) _).eval=_
   rw[iw (z:=aZ l p fs os) hx]
   show cond (fits xs.length) _ _=_
   rw[hk.h2];rfl
  rw[hs]
  exact(DT.aC (a:=(FL.next,aZ l p fs (os.set l (.list (xs++[cA p]))))) ((DT.aC (truthy_str hk.V)).trans (by rw[decide_eq_true hp];exact e1))).trans rfl
end
theorem PA{v:U}{f:Nat->EM α}{z:ES}{Q:α×ES->Prop}(h:(gO v f z).Holds Q):∃l,v= .obj l/\(f l z).Holds Q:=by
 cases v with
 |obj l=>exact⟨l,rfl,h⟩
 |_=>exact h.elim
noncomputable def Bp(args:List U):EM U:=List.casesOn args ae λa r=>List.casesOn r ae λb r=>gO a λl=>gS b λp=>iB r (gL l λxs=>aE (eE xs p) (bd (gZ l (.list (cb xs p))) λ_=>ak .none) ae)
theorem IJ{l:Nat}{p:Str}{fs os:List AO}{xs:List U}(hx:os[l]?=some (.list xs))(hk:eE xs p=true):(aL S1 H0 3000 40 794 [.obj l, .str p] ⟨fs,os⟩).eval=some (.none,⟨fs,os.set l (.list (cb xs p))⟩):=by
 rw[Ll,IF]
 refine jQ (fl:= .next) (es:=v4 l p) ?_ (.inr ⟨rfl,rfl⟩)
 refine f9 (a:=(FL.next,aZ l p fs (os.set l (.list (cb xs p))))) ?_ ?_
 ·rfl
 ·show(DT.bind ((bf H0 39 794 []).T (dp cI) (aZ l p fs os)) _).eval=_
  refine f9 ?_ (II hx (wE hk))
  show cond (lV xs p) (aB (bf H0 39 794 []).St (dC cI) (aZ l p fs os)).eval (aB (bf H0 39 794 []).St (gb cI) (aZ l p fs os)).eval=_
  cases q:lV xs p with
  |true=>exact Lm hx (wE hk) q
  |false=>exact NP hx (wE hk) q
theorem GH(args:List U)(z:ES)(Q:U×ES->Prop)(h:(Bp args z).Holds Q):(aL S1 H0 3000 40 794 args z).Holds Q:=by
 rcases args with _|⟨a,_|⟨b,r⟩⟩
 ·exact h.elim
 ·exact h.elim
 ·obtain⟨l,rfl,h⟩:=PA h
  obtain⟨p,rfl,h⟩:=B3 h
  cases r with
  |cons=>exact h.elim
  |nil=>
   obtain⟨fs,os⟩:=z
   refine iD (P:=λT=>T.Holds Q->(aL S1 H0 3000 40 794 [.obj l, .str p] ⟨fs,os⟩).Holds Q) False.elim (λxs q h=> ?_) h
   cases q2:eE xs p with
   |false=>exact(h.2 q2).elim
   |true=>exact DT.du (IJ q q2) (h.1 q2)
noncomputable def Cd(g:Addr)(V:List U->RS->DT (U×RS))(dN eY:Addr->List U->EM U):Addr->List U->EM U:=B8 g V (pick g (aL S1 dN 3000 40) eY)
noncomputable def v5(g:Addr)(sum:List U->DT PyData)(dN eY:Addr->List U->EM U):Addr->List U->EM U:=jk g sum (pick g (aL S1 dN 3000 40) eY)
section
variable{C:Cx}{n:Nat}{g:Addr}{dN eY:Addr->List U->EM U}
theorem qP{f:Addr}{args:List U}{H1 H2:Addr->List U->EM U}:pick f H1 H2 f args=H1 f args:=funext λz=>AQ
theorem IK{W:List U->RS->DT (U×RS)}(B:Base C S1)(V:ba C n dN)(h2:ba C (n+1) eY)
 (h:∀args r v r',(W args r).eval=some (v,r')->cm k8 args=true/\fR v=true/\(aL S1 dN 3000 40 g args ⟨[],cR r []⟩).Holds λo=>∃junk,o=(v,⟨[],cR r' junk⟩)):ba C (n+1) (Cd g W dN eY):=
 Iv (oJ (ja B V) h2) λargs r v r' hs=>by rw[qP];exact h args r v r' hs
theorem Al{sum:List U->DT PyData}(B:Base C S1)(V:ba C n dN)(h2:ba C (n+1) eY)
 (h:∀args d,(sum args).eval=some d->args.all fR=true/\(aL S1 dN 3000 40 g args ⟨[],[]⟩).Holds λr=>∃m,cS r.2.os m r.1=some d):ba C (n+1) (v5 g sum dN eY):=
 uA (oJ (ja B V) h2) λargs d hs=>by rw[qP];exact h args d hs
end
noncomputable def tq(H:Addr->List U->EM U):Addr->List U->EM U:=
 iu 133 B6 H3 (iu 163 Bk H3 (Cd 156 vt H3 (iu 126 Cb H3 (v5 42 vw H0 (v5 787 vw H0 (iu 794 Bp H0 (iu 141 v0 H2 H)))))))
theorem vx{C:Cx}{n:Nat}{H:Addr->List U->EM U}(B:Base C S1)(hn:8<=n)(h:ba C (n+1) H):ba C (n+1) (tq H):=by
 have V:ba C n H3:=(B5 B).up hn
 have k2:ba C n H2:=(vY B).up (by lia)
 have W:ba C n H0:=(og B 6).up (by lia)
 exact jT B V (jT B V (IK B V (jT B V (Al B W (Al B W (jT B W (jT B k2 h Ad) GH) GG) ID) Iz) GE) GC) Ir
noncomputable def ge:Addr->List U->EM U:=tq (aL S1 H3 3000 40)
noncomputable def fG:Addr->List U->EM U:=tq (aL S1 ge 3000 40)
noncomputable def jD:Addr->List U->EM U:=tq (aL S1 fG 3000 40)
theorem Bq{C:Cx}(B:Base C S1):ba C 9 ge:=vx B (by lia) (ja B (B5 B))
theorem Br{C:Cx}(B:Base C S1):ba C 10 fG:=vx B (by lia) (ja B (Bq B))
theorem vy{C:Cx}(B:Base C S1):ba C 11 jD:=vx B (by lia) (ja B (Br B))
noncomputable def wF(G:GI)(ih:IH)(asg:U->EM Unit)(body:EM FL)(p:jy)(rc:Bool->List (Str×U)->EM FL):Bool->List (Str×U)->EM FL
 |true,es=>c8 es (ih.T G.t3) λes c=>aE c (c8 es (ih.E G.e3) λes v=>mQ asg body (rc true es) v) (rc false es)
 |false,es=>mc p es λes=>c8 es (ih.T G.t1) λes c=>aE c (c8 es (ih.T G.t2) λes c=>aE c ae (rc true es)) (ak .next)
theorem ot{G:GI}{ih:IH}{asg:U->EM Unit}{body:EM FL}{p:jy}{n:Nat}:dJ G ih asg body p (n+1)=wF G ih asg body p (dJ G ih asg body p n):=by
 funext b es
 cases b<;>rfl
noncomputable def iW:IH:=bM S1 jD 3000 40 dk.fi.scope []
noncomputable def jE:IH:=bM S1 jD 3000 40 (aW 820).scope []
noncomputable def forR:Stmt:=aH (aW 820).body 5
noncomputable def gF:U->EM Unit:=bv S1 (aW 820).scope [] jE.E (ni forR)
noncomputable def gx:EM FL:=aB jE.St (dY forR)
inductive eI:Nat->Nat->Prop
 |c:eI 430 339
 |d:eI 486 451
noncomputable def T6(st:Nat)(ct:U)(more:List (Str×U)):List (Str×U):=("stream", .obj 3)::("parser", .none)::("escapeFlag", .bool false)::("lastFourChars", .obj 8)::("state", .aU st (.obj 1))::("escape", .bool false)::("currentToken",ct)::("tokenQueue", .obj 13)::more
noncomputable def aw(tb:Option Str):List (Str×U):=match tb with
 |none=>[]
 |some x=>[("temporaryBuffer", .str x)]
structure X5 where
 x8:AO
 x9:AO
 T7:AO
 T8:AO
 T9:AO
noncomputable def aN(st:Nat)(ct:U)(more:List (Str×U))(r:RS)(x:X5)(q:List U)(ds:List AO):List AO:=aT (.dict (T6 st ct more)) (.inst 762 0) r (x.x8::x.x9::x.T7::x.T8::x.T9:: .list q::ds)
noncomputable def bg:List (Str×U):=[("self", .obj 1)]
noncomputable def zG(st:Nat)(ct:U)(more:List (Str×U))(r:RS)(x:X5)(fs:List AO)(q:List U)(ds:List AO):ES:=⟨.frame bg::fs,aN st ct more r x q ds⟩
noncomputable def a8(k:Int)(p:Str):AO:= .dict [("type", .int k),("data", .str p)]
noncomputable def cB(e:Str):AO:= .dict [("type", .int 7),("data", .str e)]
noncomputable def C4(nm:Str):AO:= .dict [("type", .int 3),("name", .str nm),("data", .obj 9),("selfClosing", .bool false)]
noncomputable def au(k:Int)(nm:Str)(b:Bool):AO:= .dict [("type", .int k),("name", .str nm),("data", .ce),("selfClosing", .bool b)]
noncomputable def bQ(nm:Str)(dl:Nat)(sc:Bool):AO:= .dict [("type", .int 4),("name", .str nm),("data", .obj dl),("selfClosing", .bool sc)]
noncomputable def qA(x:Str):Bool:=(decide (x="&")||(decide (x="<")||(decide (x="\x00")||false)))==false
noncomputable def qB(x:Str):Bool:=(decide (x="<")||(decide (x="\x00")||false))==false
noncomputable def qC(x:Str):Bool:=(decide (x="<")||(decide (x="-")||(decide (x="\x00")||false)))==false
noncomputable def qD(x:Str):Bool:=Txt.contains "\x00" x==false
noncomputable def qE(x:Str):Bool:=(decide (x="\t")||(decide (x="\n")||(decide (x="\x0c")||(decide (x=" ")||(decide (x="\r")||false)))))==true
noncomputable def pC(Q:Str->Bool)(c:Nat):Bool:=Q (one c)
noncomputable def bL:List Nat:=(List.range 26).map (·+65)++(List.range 26).map (·+97)
noncomputable def cC:List Nat:=[9,10,12,32]
noncomputable def bJ(l:List Nat):List Nat:=cH.filter λc=> !l.any (Nat.beq c)
noncomputable def mh(x:Str):List Str->Bool
 |[]=>false
 |y::r=>decide (x=y)||mh x r
noncomputable def PC:List Str:=((List.range 26).map (·+97)++(List.range 26).map (·+65)).map one
noncomputable def kc(r:RS):Str:=one (cur r)
noncomputable abbrev Va(f:Nat->List Bool)(cs:List Bool)(l:List Nat):Prop:=l.map f=l.map λ_=>cs
noncomputable abbrev tG(st:Nat)(ct:U)(tb:Option Str)(r:RS)(x:X5)(fs:List AO)(q:List U)(ds:List AO):Option (Bool×ES):=(iW.T dk.t1 (zG st ct (aw tb) r x fs q ds)).eval
noncomputable abbrev It:Type:=Bool->Bool->Str->List Bool->Bool
noncomputable def iO:It:=λo _ _ _=>o
noncomputable def iE:It:=λ_ e _ _=>e
noncomputable def iT:It:=λ_ _ _ _=>true
noncomputable def iF:It:=λ_ _ _ _=>false
noncomputable def iC(x:Str):It:=λ_ _ k _=>decide (k=x)
noncomputable def iI(l:List Str):It:=λ_ _ k _=>mh k l
noncomputable def iS:It:=iI ["\t","\n","\x0c"," ","\x0d"]
noncomputable def iL:It:=iI PC
noncomputable def iN(i:It):It:=λo e k x=> !i o e k x
noncomputable def Sf:List Bool->Nat->Bool:=λl=>List.rec (λ_=>true) (λa _ ih n=>Nat.casesOn n a ih) l
noncomputable def iX(n:Nat):It:=λ_ _ _ x=>Sf x n
noncomputable def ev(I:List It)(o e:Bool)(k:Str)(x:List Bool):List Bool:=I.map λi=>i o e k x
section
variable{α:Type}{t:DT α}{a:α}{r:RS}{L:List Nat}{X Y:List Bool}{x y x' y' x2 y2 x3 y3 x4 y4:Bool}
theorem tn(I:List It)(h:t.run (ev I true false (one (L.headD 0)) Y)=some (ev I (ah r) (ax r) (kc r) X,a))(V:ah r=true)(h2:ax r=false)
 (U:L.map (λc=>ev I true false (one c) Y)=L.map λ_=>ev I true false (one (L.headD 0)) Y)(h3:cur r∈L)(hx:X=Y):t.eval=some a:=
 DT.aQ h (by rw[V,h2,hx];exact fQ (f:=λc=>ev I true false (one c) Y) (g:=λ_=>ev I true false (one (L.headD 0)) Y) U (cur r) h3)
theorem te(I:List It)(h:t.run (ev I true true (kc r) Y)=some (ev I (ah r) (ax r) (kc r) X,a))(V:ah r=true)(h2:ax r=true)(hx:X=Y):t.eval=some a:=
 DT.aQ h (by rw[V,h2,hx])
theorem d6(I:List It)(h:t.run (ev I true true (kc r) [])=some (ev I (ah r) (ax r) (kc r) [],a))(V:ah r=true)(h2:ax r=true):t.eval=some a:=te I h V h2 rfl
theorem T_(I:List It)(h:t.run (ev I true true (kc r) [y])=some (ev I (ah r) (ax r) (kc r) [x],a))(V:ah r=true)(h2:ax r=true)(e:x=y):t.eval=some a:=te I h V h2 (e▸rfl)
theorem T'(I:List It)(h:t.run (ev I true true (kc r) [y,y',y2])=some (ev I (ah r) (ax r) (kc r) [x,x',x2],a))(V:ah r=true)(h2:ax r=true)(e:x=y)(U:x'=y')(e2:x2=y2):t.eval=some a:=te I h V h2 (e▸U▸e2▸rfl)
theorem t0(I:List It)(h:t.run (ev I true false (one (L.headD 0)) [])=some (ev I (ah r) (ax r) (kc r) [],a))(V:ah r=true)(h2:ax r=false)
 (U:L.map (λc=>ev I true false (one c) [])=L.map λ_=>ev I true false (one (L.headD 0)) [])(h3:cur r∈L):t.eval=some a:=tn I h V h2 U h3 (rfl)
theorem t1(I:List It)(h:t.run (ev I true false (one (L.headD 0)) [y])=some (ev I (ah r) (ax r) (kc r) [x],a))(V:ah r=true)(h2:ax r=false)
 (U:L.map (λc=>ev I true false (one c) [y])=L.map λ_=>ev I true false (one (L.headD 0)) [y])(h3:cur r∈L)(e:x=y):t.eval=some a:=tn I h V h2 U h3 (e▸rfl)
theorem t2(I:List It)(h:t.run (ev I true false (one (L.headD 0)) [y,y'])=some (ev I (ah r) (ax r) (kc r) [x,x'],a))(V:ah r=true)(h2:ax r=false)
 (U:L.map (λc=>ev I true false (one c) [y,y'])=L.map λ_=>ev I true false (one (L.headD 0)) [y,y'])(h3:cur r∈L)(e:x=y)(W:x'=y'):t.eval=some a:=tn I h V h2 U h3 (e▸W▸rfl)
theorem t3(I:List It)(h:t.run (ev I true false (one (L.headD 0)) [y,y',y2])=some (ev I (ah r) (ax r) (kc r) [x,x',x2],a))(V:ah r=true)(h2:ax r=false)
 (U:L.map (λc=>ev I true false (one c) [y,y',y2])=L.map λ_=>ev I true false (one (L.headD 0)) [y,y',y2])(h3:cur r∈L)(e:x=y)(W:x'=y')(e2:x2=y2):t.eval=some a:=tn I h V h2 U h3 (e▸W▸e2▸rfl)
theorem t4(I:List It)(h:t.run (ev I true false (one (L.headD 0)) [y,y',y2,y3])=some (ev I (ah r) (ax r) (kc r) [x,x',x2,x3],a))(V:ah r=true)(h2:ax r=false)
 (U:L.map (λc=>ev I true false (one c) [y,y',y2,y3])=L.map λ_=>ev I true false (one (L.headD 0)) [y,y',y2,y3])(h3:cur r∈L)(e:x=y)(W:x'=y')(e2:x2=y2)(e3:x3=y3):t.eval=some a:=tn I h V h2 U h3 (e▸W▸e2▸e3▸rfl)
theorem t5(I:List It)(h:t.run (ev I true false (one (L.headD 0)) [y,y',y2,y3,y4])=some (ev I (ah r) (ax r) (kc r) [x,x',x2,x3,x4],a))(V:ah r=true)(h2:ax r=false)
 (U:L.map (λc=>ev I true false (one c) [y,y',y2,y3,y4])=L.map λ_=>ev I true false (one (L.headD 0)) [y,y',y2,y3,y4])(h3:cur r∈L)(e:x=y)(W:x'=y')(e2:x2=y2)(e3:x3=y3)(X:x4=y4):t.eval=some a:=tn I h V h2 U h3 (e▸W▸e2▸e3▸X▸rfl)
end
noncomputable def mi(T:Str)(size:Int)(so:Option (U×Int)):List (Str×U):=("text", .str T)::("size", .int size)::("t", .obj 1)::("row", .obj 11)::(match so with|none=>[]|some p=>[("token",p.1),("kind", .int p.2)])
noncomputable def b_(e:Str):U:= .tup [.str "error", .str e]
noncomputable def pE(p:Str)(sc:Bool):U:= .tup [.str "end", .str p, .obj 14, .bool sc]
noncomputable def al(xs:List U)(tk:AO):X5:=⟨.list [], .gone, .gone, .list xs,tk⟩
noncomputable def co(T:Str)(size:Int)(so:Option (U×Int))(os:List AO):ES:=⟨[.frame (mi T size so)],os⟩
section
variable{st:Nat}{ct:U}{more:List (Str×U)}{r:RS}{x:X5}{fs:List AO}{q:List U}{ds:List AO}{a:U}
theorem Si:(iW.T dk.t2 (zG st ct more r x fs q ds)).eval=some (false,zG st ct more r x fs q ds):=by kernel_rfl
theorem PE:(iW.T dk.t3 (zG st ct more r x fs [] ds)).eval=some (false,zG st ct more r x fs [] ds):=by kernel_rfl
theorem PF(h:fits (a::q).length=true):(iW.T dk.t3 (zG st ct more r x fs (a::q) ds)).eval=some (true,zG st ct more r x fs (a::q) ds):=DT.aQ (cs:=[true]) (bs:=[fits (a::q).length]) (by kernel_rfl) (by rw[h])
theorem Sj(h:fits q.length=true):(iW.E dk.e3 (zG st ct more r x fs (a::q) ds)).eval=some (a,zG st ct more r x fs q ds):=DT.aQ (cs:=[true]) (bs:=[true&&fits q.length]) (by kernel_rfl) (by rw[h];rfl)
variable{T:Str}{size:Int}{so:Option (U×Int)}{xs:List U}{tk d d1 d2 d3:AO}{p:Str}
theorem NQ(h:eE xs p=true):
 ((bd (gF (.obj 14)) λ_=>gx) (co T size so (aN st ct more r (al xs tk) q (a8 1 p::ds)))).eval=some (FL.next,co T size (some (.obj 14,1)) (aN st ct more r (al (cb xs p) tk) q (a8 1 p::ds))):=
 by cases so<;>exact DT.aQ (cs:=[true,true,true]) (bs:=[true,true,eE xs p]) (by kernel_rfl) (by rw[h])
theorem NR(h:eE xs p=true):
 ((bd (gF (.obj 15)) λ_=>gx) (co T size so (aN st ct more r (al xs tk) q (d::a8 1 p::ds)))).eval=some (FL.next,co T size (some (.obj 15,1)) (aN st ct more r (al (cb xs p) tk) q (d::a8 1 p::ds))):=
 by cases so<;>exact DT.aQ (cs:=[true,true,true]) (bs:=[true,true,eE xs p]) (by kernel_rfl) (by rw[h])
theorem Ce(h:fits xs.length=true):
 ((bd (gF (.obj 14)) λ_=>gx) (co T size so (aN st ct more r (al xs tk) q (cB p::ds)))).eval=some (FL.next,co T size (some (.obj 14,7)) (aN st ct more r (al (xs++[b_ p]) tk) q (cB p::ds))):=
 by cases so<;>exact DT.aQ (cs:=[false,false,false,true,true,true]) (bs:=[false,false,false,true,true,fits xs.length]) (by kernel_rfl) (by rw[h])
theorem v6(h:fits xs.length=true):
 ((bd (gF (.obj 16)) λ_=>gx) (co T size so (aN st ct more r (al xs tk) q (d::d1::cB p::ds)))).eval=some (FL.next,co T size (some (.obj 16,7)) (aN st ct more r (al (xs++[b_ p]) tk) q (d::d1::cB p::ds))):=
 by cases so<;>exact DT.aQ (cs:=[false,false,false,true,true,true]) (bs:=[false,false,false,true,true,fits xs.length]) (by kernel_rfl) (by rw[h])
theorem PG(h:fits xs.length=true):
 ((bd (gF (.obj 17)) λ_=>gx) (co T size so (aN st ct more r (al xs tk) q (d::d1::d2::cB p::ds)))).eval=some (FL.next,co T size (some (.obj 17,7)) (aN st ct more r (al (xs++[b_ p]) tk) q (d::d1::d2::cB p::ds))):=
 by cases so<;>exact DT.aQ (cs:=[false,false,false,true,true,true]) (bs:=[false,false,false,true,true,fits xs.length]) (by kernel_rfl) (by rw[h])
theorem PH(h:fits xs.length=true):
 ((bd (gF (.obj 18)) λ_=>gx) (co T size so (aN st ct more r (al xs tk) q (d::d1::d2::d3::cB p::ds)))).eval=some (FL.next,co T size (some (.obj 18,7)) (aN st ct more r (al (xs++[b_ p]) tk) q (d::d1::d2::d3::cB p::ds))):=
 by cases so<;>exact DT.aQ (cs:=[false,false,false,true,true,true]) (bs:=[false,false,false,true,true,fits xs.length]) (by kernel_rfl) (by rw[h])
theorem rZ{at_:List U}{sc:Bool}{tb:Str}(h:fits xs.length=true):
 ((bd (gF (.obj 15)) λ_=>gx) (co T size so (aN st ct (aw (some tb)) r (al xs tk) q (.list at_::bQ p 14 sc::ds)))).eval=some (FL.next,co T size (some (.obj 15,4)) (aN 339 ct (aw (some tb)) r (al (xs++[pE p sc]) tk) q (.list at_::bQ p 14 sc::ds))):=by
 cases sc<;>cases so<;>exact DT.aQ (cs:=[false,false,false,false,true,true,true]) (bs:=[false,false,false,false,true,true,fits xs.length]) (by kernel_rfl) (by rw[h])
noncomputable def sB(r:RS):U:= .tup [.int (gB r r.off+1), .int (gE r r.off)]
noncomputable def iH:Stmt:=aH (aW 820).body 6
theorem PI(V:ah r=true)(h2:ax r=true):(jE.St iH (co T size so (aN st ct more r (al xs tk) q ds))).eval=some (.ret (.tup [.obj 11,sB r, .none]),co T size so (aN st ct more (aO r) (al xs tk) q ds)):=by
 cases so<;>exact DT.aQ (cs:=[true,true,true]) (bs:=[ah r,ax r,true]) (by kernel_rfl) (by rw[V,h2])
end
noncomputable def bH(l q:Nat):List Nat:=[0,1,2,3,4,5,6,7,8,1009,1010,11,l,q]
noncomputable def kX:List Nat:=[535,542,591]
noncomputable def eJ(z:ES):List Nat:=match z.os with
 | .dict es::_=>(match lk "currentToken" es,lk "tokenQueue" es,lk "state" es with
   |some (.obj l),some (.obj q),some (.aU f _)=>cond (Nat.ble 14 l&&eF f kX) (List.range z.os.length) (bH l q)
   |_,_,_=>[])
 |_=>[]
noncomputable def pG:jy:=⟨12,eJ⟩
theorem zy{G:GI}{ih:IH}{asg:U->EM Unit}{body:EM FL}{p:jy}{rc:Bool->List (Str×U)->EM FL}{es:List (Str×U)}:wF G ih asg body p rc true es=c8 es (ih.T G.t3) λes c=>aE c (c8 es (ih.E G.e3) λes v=>mQ asg body (rc true es) v) (rc false es):=rfl
theorem t7{G:GI}{ih:IH}{asg:U->EM Unit}{body:EM FL}{p:jy}{rc:Bool->List (Str×U)->EM FL}{es:List (Str×U)}:wF G ih asg body p rc false es=mc p es λes=>c8 es (ih.T G.t1) λes c=>aE c (c8 es (ih.T G.t2) λes c=>aE c ae (rc true es)) (ak .next):=rfl
noncomputable abbrev GL(n:Nat):Bool->List (Str×U)->EM FL:=dJ dk iW gF gx pG n
section
variable{n:Nat}{Q:FL×ES->Prop}{st cD:Nat}{ct qf:U}{more jZ:List (Str×U)}{r r':RS}{x x':X5}{fs dL:List AO}{a v:U}{q:List U}{ds lm os os':List AO}
theorem nj{es fb:List (Str×U)}{α β:Type}{m:EM α}{k:List (Str×U)->α->EM β}{z:ES}{Q:β×ES->Prop}{y:α}{fs os:List AO}(h:(m ⟨.frame es::z.fs,z.os⟩).eval=some (y,⟨.frame fb::fs,os⟩))(hk:(k fb y ⟨fs,os⟩).Holds Q):(c8 es m k z).Holds Q:=by
 refine DT.lD (DT.du h ?_)
 exact hk
theorem wG{α:Type}{Q:α->Prop}{a b:DT α}(h:a.Holds Q):(DT.test true a b).Holds Q:=⟨λ_=>h,λe=>absurd e (by decide)⟩
theorem wH{α:Type}{Q:α->Prop}{a b:DT α}(h:b.Holds Q):(DT.test false a b).Holds Q:=⟨λe=>absurd e (by decide),λ_=>h⟩
theorem dW(h:(GL n false bg ⟨fs,aN st ct more r x [] ds⟩).Holds Q):(GL (n+1) true bg ⟨fs,aN st ct more r x [] ds⟩).Holds Q:=by
 unfold GL
 rw[ot,zy]
 exact nj (z:=⟨fs,aN st ct more r x [] ds⟩) PE (wH h)
theorem gn(hf:fits (a::q).length=true)(h2:((bd (gF a) λ_=>gx) ⟨fs,aN st ct more r x q ds⟩).eval=some (FL.next,⟨dL,os'⟩))(h:(GL n true bg ⟨dL,os'⟩).Holds Q):(GL (n+1) true bg ⟨fs,aN st ct more r x (a::q) ds⟩).Holds Q:=by
 have U:fits q.length=true:=by unfold fits at hf⊢;exact Nat.ble_eq_true_of_le (by have:=Nat.le_of_ble_eq_true hf;simp at this;lia)
 unfold GL
 rw[ot,zy]
 refine nj (z:=⟨fs,aN st ct more r x (a::q) ds⟩) (PF hf) (wG ?_)
 refine nj (z:=⟨fs,aN st ct more r x (a::q) ds⟩) (Sj U) ?_
 have e:mQ gF gx (dJ dk iW gF gx pG n true bg) a ⟨fs,aN st ct more r x q ds⟩=((bd (gF a) λ_=>gx) ⟨fs,aN st ct more r x q ds⟩).bind (λr=>(fu (dJ dk iW gF gx pG n true bg) r.1) r.2):=(DT.bind_assoc).symm
 rw[e]
 exact DT.lD (DT.du h2 h)
noncomputable def g8(z:ES)(fs:List AO)(os:List AO):Prop:=(jo 0 12 (eJ ⟨.frame bg::z.fs,z.os⟩)&&g5 (eJ ⟨.frame bg::z.fs,z.os⟩) (cX (eJ ⟨.frame bg::z.fs,z.os⟩) ⟨.frame bg::z.fs,z.os⟩))=true/\dB (eJ ⟨.frame bg::z.fs,z.os⟩) (cX (eJ ⟨.frame bg::z.fs,z.os⟩) ⟨.frame bg::z.fs,z.os⟩)=⟨.frame bg::fs,os⟩
theorem g8.of{z:ES}{ks:List Nat}(hk:eJ ⟨.frame bg::z.fs,z.os⟩=ks)(U:jo 0 12 ks=true)(V:g5 ks (cX ks ⟨.frame bg::z.fs,z.os⟩)=true)(h2:dB ks (cX ks ⟨.frame bg::z.fs,z.os⟩)=⟨.frame bg::fs,os⟩):g8 z fs os:=by
 unfold g8
 rw[hk,U,V]
 exact⟨rfl,h2⟩
theorem dU{z:ES}(U:g8 z fs (aN st ct more r x q ds))(ht:(iW.T dk.t1 (zG st ct more r x fs q ds)).eval=some (true,zG cD qf jZ r' x' dL V lm))(h:(GL n true bg ⟨dL,aN cD qf jZ r' x' V lm⟩).Holds Q):(GL (n+1) false bg z).Holds Q:=by
 unfold GL
 rw[ot,t7]
 unfold mc jz
 refine⟨λ_=> ?_,λe=>by rw[show(jo 0 pG.k (pG.kf ⟨.frame bg::z.fs,z.os⟩)&&g5 (pG.kf ⟨.frame bg::z.fs,z.os⟩) (cX (pG.kf ⟨.frame bg::z.fs,z.os⟩) ⟨.frame bg::z.fs,z.os⟩))=true from U.1]at e;cases e⟩
 rw[show dB (pG.kf ⟨.frame bg::z.fs,z.os⟩) (cX (pG.kf ⟨.frame bg::z.fs,z.os⟩) ⟨.frame bg::z.fs,z.os⟩)=_ from U.2]
 refine nj (z:=⟨fs,aN st ct more r x q ds⟩) ht (wG ?_)
 exact nj (z:=⟨dL,aN cD qf jZ r' x' V lm⟩) Si (wH h)
theorem AY{z:ES}(U:g8 z fs (aN st ct more r x q ds))(ht:(iW.T dk.t1 (zG st ct more r x fs q ds)).eval=some (false,zG cD qf jZ r' x' dL V lm))(h:Q (.next,⟨dL,aN cD qf jZ r' x' V lm⟩)):(GL (n+1) false bg z).Holds Q:=by
 unfold GL
 rw[ot,t7]
 unfold mc jz
 refine⟨λ_=> ?_,λe=>by rw[show(jo 0 pG.k (pG.kf ⟨.frame bg::z.fs,z.os⟩)&&g5 (pG.kf ⟨.frame bg::z.fs,z.os⟩) (cX (pG.kf ⟨.frame bg::z.fs,z.os⟩) ⟨.frame bg::z.fs,z.os⟩))=true from U.1]at e;cases e⟩
 rw[show dB (pG.kf ⟨.frame bg::z.fs,z.os⟩) (cX (pG.kf ⟨.frame bg::z.fs,z.os⟩) ⟨.frame bg::z.fs,z.os⟩)=_ from U.2]
 exact nj (z:=⟨fs,aN st ct more r x q ds⟩) ht (wH h)
end
theorem kB{os:List AO}{ks:List Nat}{xs:List U}:cm ks xs=true->xs.map (d5 os ks)=xs:=by
 induction xs with
 |nil=>exactλ_=>rfl
 |cons a xs ih=>
  intro h
  have h:=Bool.and_eq_true_iff.mp h
  rw[List.map_cons,ih h.2]
  unfold d5
  rw[h.1];rfl
theorem F6{ks:List Nat}{xs ys:List U}:cm ks (xs++ys)=(cm ks xs&&cm ks ys):=by
 induction xs with
 |nil=>rfl
 |cons a xs ih=>exact(congrArg (fixed ks a&&·) ih).trans (Bool.and_assoc ..).symm
noncomputable def lu(ks:List Nat)(so:Option (U×Int)):Option (U×Int):=so.map λp=>(rn ks p.1,p.2)
noncomputable def g_(p:Str)(b:Option Str)(sc:Bool):U:= .tup [.str "end", .str p, .dat (.list (match b with|none=>[]|some b=>[.list [.str b, .str ""]])), .bool sc]
section
variable{st:Nat}{tb:Option Str}{tn b:Str}{r:RS}{xs:List U}{T nm:Str}{kk size:Int}{bb sc:Bool}{so:Option (U×Int)}{tk:AO}{ds:List AO}
noncomputable abbrev zS(T:Str)(size:Int)(so:Option (U×Int))(os:List AO):ES:=⟨.frame bg::[.frame (mi T size so)],os⟩
theorem PJ:dB (bH 12 13) (cX (bH 12 13) (zS T size so (aN st (.obj 12) (aw tb) r (al xs (au kk nm bb)) [] ds)))=zS T size (lu (bH 12 13) so) (aN st (.obj 12) (aw tb) r (al (xs.map (d5 (cz false (bH 12 13) id 0 (aN st (.obj 12) (aw tb) r (al xs (au kk nm bb)) [] ds)) (bH 12 13))) (au kk nm bb)) [] []):=by
 cases tb<;>cases so<;>kernel_rfl
theorem PK:g5 (bH 12 13) (cX (bH 12 13) (zS T size so (aN st (.obj 12) (aw tb) r (al xs (au kk nm bb)) [] ds)))=(cm (bH 12 13) (xs.map (d5 (cz false (bH 12 13) id 0 (aN st (.obj 12) (aw tb) r (al xs (au kk nm bb)) [] ds)) (bH 12 13)))&&true):=by kernel_rfl
theorem Sk{fs:List AO}:eJ ⟨fs,aN st (.obj 12) (aw tb) r (al xs tk) [] ds⟩=bH 12 13:=by kernel_rfl
theorem fS(hx:cm (bH 12 13) xs=true):g8 (co T size so (aN st (.obj 12) (aw tb) r (al xs (au kk nm bb)) [] ds)) [.frame (mi T size (lu (bH 12 13) so))] (aN st (.obj 12) (aw tb) r (al xs (au kk nm bb)) [] []):=by
 refine .of (ks:=bH 12 13) Sk rfl ?_ ?_
 ·refine Eq.trans PK ?_
  rw[kB hx,hx];rfl
 ·refine Eq.trans PJ ?_
  rw[kB hx]
end
section
variable{r:RS}{ct:U}{x:X5}{fs:List AO}
theorem Ln{tb:Option Str}(V:ah r=true)(h2:ax r=false)(h3:cur r∈[60]):
 tG 339 ct tb r x fs [] []=some (true,zG 416 ct (aw tb) (aj r) x fs [] []):=
 by cases tb<;>exact t0 [iO,iE,iC "<"] (by kernel_rfl) V h2 (by kernel_rfl) h3
theorem IL{tb:Option Str}(V:ah r=true)(h2:ax r=true):
 tG 339 ct tb r x fs [] []=some (false,zG 339 ct (aw tb) (aO r) x fs [] []):=
 by cases tb<;>exact d6 [iO,iE,iF,iF,iT] (by kernel_rfl) V h2
theorem IM{tb:Option Str}(V:ah r=true)(h2:ax r=false)(h3:cur r∈[0]):
 tG 339 ct tb r x fs [] []=some (true,zG 339 ct (aw tb) (aj r) x fs [.obj 14, .obj 15] [cB "invalid-codepoint",a8 1 "�"]):=
 by cases tb<;>exact t0 [iO,iE,iC "<",iC "\x00",iT,iT] (by kernel_rfl) V h2 (by kernel_rfl) h3
theorem IN{tb:Option Str}(V:ah r=true)(h2:ax r=false)(h3:cur r∈(bJ [0,60]))(e0:(ah (aj r))=true)(e1:(fits 1&&fits (eS qB (aj r)).length)=true):
 tG 339 ct tb r x fs [] []=some (true,zG 339 ct (aw tb) (eD (pC qB) (aj r)) x fs [.obj 14] [a8 1 (kc r++eS qB (aj r))]):=
 by cases tb<;>exact t2 [iO,iE,iC "<",iC "\x00",iF,iT,iX 0,iX 1,iT] (by kernel_rfl) V h2 (by kernel_rfl) h3 e0 e1
theorem Lp{tb:Option Str}(V:ah r=true)(h2:ax r=false)(h3:cur r∈[47]):
 tG 416 ct tb r x fs [] []=some (true,zG 423 ct (aw (some "")) (aj r) x fs [] []):=
 by cases tb<;>exact t0 [iO,iE,iC "/"] (by kernel_rfl) V h2 (by kernel_rfl) h3
theorem Lq{tb:Option Str}(V:ah r=true)(h2:ax r=false)(h3:cur r∈[33]):
 tG 416 ct tb r x fs [] []=some (true,zG 437 ct (aw tb) (aj r) x fs [.obj 14] [a8 1 "<!"]):=
 by cases tb<;>exact t0 [iO,iE,iC "/",iC "!",iT] (by kernel_rfl) V h2 (by kernel_rfl) h3
theorem IO{tb:Option Str}(V:ah r=true)(h2:ax r=false)(h3:cur r∈(bJ [33,47]))(e0:(ah (aj r)&&(decide (1<=(aj r).off)&&decide ((kc r)=one (dm (aj r)))))=true):
 tG 416 ct tb r x fs [] []=some (true,zG 339 ct (aw tb) (back (aj r)) x fs [.obj 14] [a8 1 "<"]):=
 by cases tb<;>exact t1 [iO,iE,iC "/",iC "!",iT,iX 0] (by kernel_rfl) V h2 (by kernel_rfl) h3 e0
theorem IP{tb:Option Str}(V:ah r=true)(h2:ax r=true):
 tG 416 ct tb r x fs [] []=some (true,zG 339 ct (aw tb) (aO r) x fs [.obj 14] [a8 1 "<"]):=
 by cases tb<;>exact d6 [iO,iE,iF,iF,iT] (by kernel_rfl) V h2
theorem IQ{tb:Str}(V:ah r=true)(h2:ax r=false)(h3:cur r∈bL)(e0:(fits tb.length&&fits 1)=true):
 tG 423 ct (some tb) r x fs [] []=some (true,zG 430 ct (aw (some (tb++kc r))) (aj r) x fs [] []):=
 t1 [iO,iE,iL,iX 0] (by kernel_rfl) V h2 (by kernel_rfl) h3 e0
theorem IR{tb:Str}(V:ah r=true)(h2:ax r=false)(h3:cur r∈(bJ bL))(e0:(ah (aj r)&&(decide (1<=(aj r).off)&&decide ((kc r)=one (dm (aj r)))))=true):
 tG 423 ct (some tb) r x fs [] []=some (true,zG 339 ct (aw (some tb)) (back (aj r)) x fs [.obj 14] [a8 1 "</"]):=
 t1 [iO,iE,iL,iT,iX 0] (by kernel_rfl) V h2 (by kernel_rfl) h3 e0
theorem IS{tb:Str}(V:ah r=true)(h2:ax r=true):
 tG 423 ct (some tb) r x fs [] []=some (true,zG 339 ct (aw (some tb)) (aO r) x fs [.obj 14] [a8 1 "</"]):=
 d6 [iO,iE,iF,iT] (by kernel_rfl) V h2
theorem IU{tb:Str}(V:ah r=true)(h2:ax r=false)(h3:cur r∈bL):
 tG 479 ct (some tb) r x fs [] []=some (true,zG 486 ct (aw (some (kc r))) (aj r) x fs [] []):=
 t0 [iO,iE,iL] (by kernel_rfl) V h2 (by kernel_rfl) h3
end
section
variable{r:RS}{ct:U}{x:X5}{fs:List AO}
theorem IV{tb:Str}(V:ah r=true)(h2:ax r=false)(h3:cur r∈(bJ bL))(e0:(ah (aj r)&&(decide (1<=(aj r).off)&&decide ((kc r)=one (dm (aj r)))))=true):
 tG 479 ct (some tb) r x fs [] []=some (true,zG 451 ct (aw (some tb)) (back (aj r)) x fs [.obj 14] [a8 1 "</"]):=
 t1 [iO,iE,iL,iT,iX 0] (by kernel_rfl) V h2 (by kernel_rfl) h3 e0
theorem IW{tb:Str}(V:ah r=true)(h2:ax r=true):
 tG 479 ct (some tb) r x fs [] []=some (true,zG 451 ct (aw (some tb)) (aO r) x fs [.obj 14] [a8 1 "</"]):=
 d6 [iO,iE,iF,iT] (by kernel_rfl) V h2
theorem Lr{EN BB:Nat}(p:eI EN BB){tb:Str}{nm:Str}{y8 y9 y10 y11:AO}{kk:Int}{bb:Bool}(V:ah r=true)(h2:ax r=false)(h3:cur r∈bL)(e0:(fits (Txt.lower nm).length)=true)(e1:(fits (Txt.lower tb).length)=true)(e2:(fits tb.length&&fits 1)=true):
 tG EN (.obj 12) (some tb) r ⟨y8,y9,y10,y11,au kk nm bb⟩ fs [] []=some (true,zG EN (.obj 12) (aw (some (tb++kc r))) (aj r) ⟨y8,y9,y10,y11,au kk nm bb⟩ fs [] []):=by
 cases p<;>exact t3 [iT,iT,iX 0,iX 1,iO,iE,iS,iF,iC "/",iF,iC ">",iF,iL,iX 2] (by kernel_rfl) V h2 (by kernel_rfl) h3 e0 e1 e2
theorem Ls{EN BB:Nat}(p:eI EN BB){tb:Str}{nm:Str}{y8 y9 y10 y11:AO}{kk:Int}{bb:Bool}(V:ah r=true)(h2:ax r=false)(h3:cur r∈(bJ (bL++cC++[47,62])))(e0:(fits (Txt.lower nm).length)=true)(e1:(fits (Txt.lower tb).length)=true)(e2:(fits 2&&fits tb.length)=true)(e3:(ah (aj r)&&(decide (1<=(aj r).off)&&decide ((kc r)=one (dm (aj r)))))=true):
 tG EN (.obj 12) (some tb) r ⟨y8,y9,y10,y11,au kk nm bb⟩ fs [] []=some (true,zG BB (.obj 12) (aw (some tb)) (back (aj r)) ⟨y8,y9,y10,y11,au kk nm bb⟩ fs [.obj 14] [a8 1 ("</"++tb)]):=by
 cases p<;>exact t4 [iT,iT,iX 0,iX 1,iO,iE,iS,iF,iC "/",iF,iC ">",iF,iL,iX 2,iT,iX 3] (by kernel_rfl) V h2 (by kernel_rfl) h3 e0 e1 e2 e3
theorem Lu{EN BB:Nat}(p:eI EN BB){tb:Str}{nm:Str}{y8 y9 y10 y11:AO}{kk:Int}{bb:Bool}(V:ah r=true)(h2:ax r=false)(h3:cur r∈cC)(e0:(fits (Txt.lower nm).length)=true)(e1:(fits (Txt.lower tb).length)=true)(e2:(decide (Txt.lower nm=Txt.lower tb))=false)(e3:(fits 2&&fits tb.length)=true)(U:(ah (aj r)&&(decide (1<=(aj r).off)&&decide ((kc r)=one (dm (aj r)))))=true):
 tG EN (.obj 12) (some tb) r ⟨y8,y9,y10,y11,au kk nm bb⟩ fs [] []=some (true,zG BB (.obj 12) (aw (some tb)) (back (aj r)) ⟨y8,y9,y10,y11,au kk nm bb⟩ fs [.obj 14] [a8 1 ("</"++tb)]):=by
 cases p<;>exact t5 [iT,iT,iX 0,iX 1,iO,iE,iS,iX 2,iF,iC "/",iF,iC ">",iF,iL,iX 3,iT,iX 4] (by kernel_rfl) V h2 (by kernel_rfl) h3 e0 e1 e2 e3 U
theorem Lv{EN BB:Nat}(p:eI EN BB){tb:Str}{nm:Str}{y8 y9 y10 y11:AO}{kk:Int}{bb:Bool}(V:ah r=true)(h2:ax r=false)(h3:cur r∈[47])(e0:(fits (Txt.lower nm).length)=true)(e1:(fits (Txt.lower tb).length)=true)(e2:(decide (Txt.lower nm=Txt.lower tb))=false)(e3:(fits 2&&fits tb.length)=true)(U:(ah (aj r)&&(decide (1<=(aj r).off)&&decide ((kc r)=one (dm (aj r)))))=true):
 tG EN (.obj 12) (some tb) r ⟨y8,y9,y10,y11,au kk nm bb⟩ fs [] []=some (true,zG BB (.obj 12) (aw (some tb)) (back (aj r)) ⟨y8,y9,y10,y11,au kk nm bb⟩ fs [.obj 14] [a8 1 ("</"++tb)]):=by
 cases p<;>exact t5 [iT,iT,iX 0,iX 1,iO,iE,iS,iF,iC "/",iX 2,iF,iC ">",iF,iL,iX 3,iT,iX 4] (by kernel_rfl) V h2 (by kernel_rfl) h3 e0 e1 e2 e3 U
theorem Lw{EN BB:Nat}(p:eI EN BB){tb:Str}{nm:Str}{y8 y9 y10 y11:AO}{kk:Int}{bb:Bool}(V:ah r=true)(h2:ax r=false)(h3:cur r∈[62])(e0:(fits (Txt.lower nm).length)=true)(e1:(fits (Txt.lower tb).length)=true)(e2:(decide (Txt.lower nm=Txt.lower tb))=false)(e3:(fits 2&&fits tb.length)=true)(U:(ah (aj r)&&(decide (1<=(aj r).off)&&decide ((kc r)=one (dm (aj r)))))=true):
 tG EN (.obj 12) (some tb) r ⟨y8,y9,y10,y11,au kk nm bb⟩ fs [] []=some (true,zG BB (.obj 12) (aw (some tb)) (back (aj r)) ⟨y8,y9,y10,y11,au kk nm bb⟩ fs [.obj 14] [a8 1 ("</"++tb)]):=by
 cases p<;>exact t5 [iT,iT,iX 0,iX 1,iO,iE,iS,iF,iC "/",iF,iC ">",iX 2,iF,iL,iX 3,iT,iX 4] (by kernel_rfl) V h2 (by kernel_rfl) h3 e0 e1 e2 e3 U
theorem Lx{EN BB:Nat}(p:eI EN BB){tb:Str}{nm:Str}{y8 y9 y10 y11:AO}{kk:Int}{bb:Bool}(V:ah r=true)(h2:ax r=true)(e0:(fits (Txt.lower nm).length)=true)(e1:(fits (Txt.lower tb).length)=true)(e2:(fits 2&&fits tb.length)=true):
 tG EN (.obj 12) (some tb) r ⟨y8,y9,y10,y11,au kk nm bb⟩ fs [] []=some (true,zG BB (.obj 12) (aw (some tb)) (aO r) ⟨y8,y9,y10,y11,au kk nm bb⟩ fs [.obj 14] [a8 1 ("</"++tb)]):=by
 cases p<;>exact T' [iT,iT,iX 0,iX 1,iO,iE,iF,iF,iF,iF,iF,iF,iF,iX 2,iT] (by kernel_rfl) V h2 e0 e1 e2
theorem Ly{EN BB:Nat}(p:eI EN BB){tb:Str}{nm:Str}{y8 y9 y10 y11:AO}{kk:Int}{bb:Bool}(V:ah r=true)(h2:ax r=false)(h3:cur r∈cC)(e0:(fits (Txt.lower nm).length)=true)(e1:(fits (Txt.lower tb).length)=true)(e2:(decide (Txt.lower nm=Txt.lower tb))=true):
 tG EN (.obj 12) (some tb) r ⟨y8,y9,y10,y11,au kk nm bb⟩ fs [] []=some (true,zG 535 (.obj 15) (aw (some tb)) (aj r) ⟨y8,y9,y10,y11,au kk nm bb⟩ fs [] [.list [],bQ tb 14 false]):=by
 cases p<;>exact t3 [iT,iT,iX 0,iX 1,iO,iE,iS,iX 2,iT,iT] (by kernel_rfl) V h2 (by kernel_rfl) h3 e0 e1 e2
theorem Lz{EN BB:Nat}(p:eI EN BB){tb:Str}{nm:Str}{y8 y9 y10 y11:AO}{kk:Int}{bb:Bool}(V:ah r=true)(h2:ax r=false)(h3:cur r∈[47])(e0:(fits (Txt.lower nm).length)=true)(e1:(fits (Txt.lower tb).length)=true)(e2:(decide (Txt.lower nm=Txt.lower tb))=true):
 tG EN (.obj 12) (some tb) r ⟨y8,y9,y10,y11,au kk nm bb⟩ fs [] []=some (true,zG 591 (.obj 15) (aw (some tb)) (aj r) ⟨y8,y9,y10,y11,au kk nm bb⟩ fs [] [.list [],bQ tb 14 false]):=by
 cases p<;>exact t3 [iT,iT,iX 0,iX 1,iO,iE,iS,iF,iC "/",iX 2,iT,iT] (by kernel_rfl) V h2 (by kernel_rfl) h3 e0 e1 e2
theorem LA{EN BB:Nat}(p:eI EN BB){tb:Str}{nm:Str}{y8 y9 y10 y11:AO}{kk:Int}{bb:Bool}(V:ah r=true)(h2:ax r=false)(h3:cur r∈[62])(e0:(fits (Txt.lower nm).length)=true)(e1:(fits (Txt.lower tb).length)=true)(e2:(decide (Txt.lower nm=Txt.lower tb))=true)(e3:(eU tb)=true):
 tG EN (.obj 12) (some tb) r ⟨y8,y9,y10,y11,au kk nm bb⟩ fs [] []=some (true,zG 304 (.obj 15) (aw (some tb)) (aj r) ⟨y8,y9,y10,y11,au kk nm bb⟩ fs [.obj 15] [.list [],bQ (aX tb) 14 false]):=by
 cases p<;>exact t4 [iT,iT,iX 0,iX 1,iO,iE,iS,iF,iC "/",iF,iC ">",iX 2,iT,iT,iT,iX 3,iT,iF,iT,iT,iF,iF,iT] (by kernel_rfl) V h2 (by kernel_rfl) h3 e0 e1 e2 e3
end
section
variable{r:RS}{ct:U}{x:X5}{fs:List AO}
theorem LB{tb:Option Str}(V:ah r=true)(h2:ax r=false)(h3:cur r∈[45]):
 tG 437 ct tb r x fs [] []=some (true,zG 444 ct (aw tb) (aj r) x fs [.obj 14] [a8 1 "-"]):=
 by cases tb<;>exact t0 [iO,iE,iC "-",iT] (by kernel_rfl) V h2 (by kernel_rfl) h3
theorem IX{tb:Option Str}(V:ah r=true)(h2:ax r=false)(h3:cur r∈(bJ [45]))(e0:(ah (aj r)&&(decide (1<=(aj r).off)&&decide ((kc r)=one (dm (aj r)))))=true):
 tG 437 ct tb r x fs [] []=some (true,zG 339 ct (aw tb) (back (aj r)) x fs [] []):=
 by cases tb<;>exact t1 [iO,iE,iC "-",iX 0] (by kernel_rfl) V h2 (by kernel_rfl) h3 e0
theorem IY{tb:Option Str}(V:ah r=true)(h2:ax r=true):
 tG 437 ct tb r x fs [] []=some (true,zG 339 ct (aw tb) (aO r) x fs [] []):=
 by cases tb<;>exact d6 [iO,iE,iF] (by kernel_rfl) V h2
theorem LC{tb:Option Str}(V:ah r=true)(h2:ax r=false)(h3:cur r∈[45]):
 tG 444 ct tb r x fs [] []=some (true,zG 465 ct (aw tb) (aj r) x fs [.obj 14] [a8 1 "-"]):=
 by cases tb<;>exact t0 [iO,iE,iC "-",iT] (by kernel_rfl) V h2 (by kernel_rfl) h3
theorem IZ{tb:Option Str}(V:ah r=true)(h2:ax r=false)(h3:cur r∈(bJ [45]))(e0:(ah (aj r)&&(decide (1<=(aj r).off)&&decide ((kc r)=one (dm (aj r)))))=true):
 tG 444 ct tb r x fs [] []=some (true,zG 339 ct (aw tb) (back (aj r)) x fs [] []):=
 by cases tb<;>exact t1 [iO,iE,iC "-",iX 0] (by kernel_rfl) V h2 (by kernel_rfl) h3 e0
theorem I0{tb:Option Str}(V:ah r=true)(h2:ax r=true):
 tG 444 ct tb r x fs [] []=some (true,zG 339 ct (aw tb) (aO r) x fs [] []):=
 by cases tb<;>exact d6 [iO,iE,iF] (by kernel_rfl) V h2
theorem LD{tb:Option Str}(V:ah r=true)(h2:ax r=false)(h3:cur r∈[45]):
 tG 451 ct tb r x fs [] []=some (true,zG 458 ct (aw tb) (aj r) x fs [.obj 14] [a8 1 "-"]):=
 by cases tb<;>exact t0 [iO,iE,iC "-",iT] (by kernel_rfl) V h2 (by kernel_rfl) h3
theorem LE{tb:Option Str}(V:ah r=true)(h2:ax r=false)(h3:cur r∈[60]):
 tG 451 ct tb r x fs [] []=some (true,zG 472 ct (aw tb) (aj r) x fs [] []):=
 by cases tb<;>exact t0 [iO,iE,iC "-",iC "<"] (by kernel_rfl) V h2 (by kernel_rfl) h3
theorem I1{tb:Option Str}(V:ah r=true)(h2:ax r=false)(h3:cur r∈[0]):
 tG 451 ct tb r x fs [] []=some (true,zG 451 ct (aw tb) (aj r) x fs [.obj 14, .obj 15] [cB "invalid-codepoint",a8 1 "�"]):=
 by cases tb<;>exact t0 [iO,iE,iC "-",iC "<",iC "\x00",iT,iT] (by kernel_rfl) V h2 (by kernel_rfl) h3
theorem I2{tb:Option Str}(V:ah r=true)(h2:ax r=true):
 tG 451 ct tb r x fs [] []=some (true,zG 304 ct (aw tb) (aO r) x fs [] []):=
 by cases tb<;>exact d6 [iO,iE,iF,iF,iF,iT] (by kernel_rfl) V h2
end
section
variable{r:RS}{ct:U}{x:X5}{fs:List AO}
theorem I4{tb:Option Str}(V:ah r=true)(h2:ax r=false)(h3:cur r∈(bJ [0,45,60]))(e0:(ah (aj r))=true)(e1:(fits 1&&fits (eS qC (aj r)).length)=true):
 tG 451 ct tb r x fs [] []=some (true,zG 451 ct (aw tb) (eD (pC qC) (aj r)) x fs [.obj 14] [a8 1 (kc r++eS qC (aj r))]):=
 by cases tb<;>exact t2 [iO,iE,iC "-",iC "<",iC "\x00",iF,iT,iX 0,iX 1,iT] (by kernel_rfl) V h2 (by kernel_rfl) h3 e0 e1
theorem LF{tb:Option Str}(V:ah r=true)(h2:ax r=false)(h3:cur r∈[45]):
 tG 458 ct tb r x fs [] []=some (true,zG 465 ct (aw tb) (aj r) x fs [.obj 14] [a8 1 "-"]):=
 by cases tb<;>exact t0 [iO,iE,iC "-",iT] (by kernel_rfl) V h2 (by kernel_rfl) h3
theorem LG{tb:Option Str}(V:ah r=true)(h2:ax r=false)(h3:cur r∈[60]):
 tG 458 ct tb r x fs [] []=some (true,zG 472 ct (aw tb) (aj r) x fs [] []):=
 by cases tb<;>exact t0 [iO,iE,iC "-",iC "<"] (by kernel_rfl) V h2 (by kernel_rfl) h3
theorem I5{tb:Option Str}(V:ah r=true)(h2:ax r=false)(h3:cur r∈[0]):
 tG 458 ct tb r x fs [] []=some (true,zG 451 ct (aw tb) (aj r) x fs [.obj 14, .obj 15] [cB "invalid-codepoint",a8 1 "�"]):=
 by cases tb<;>exact t0 [iO,iE,iC "-",iC "<",iC "\x00",iT,iT] (by kernel_rfl) V h2 (by kernel_rfl) h3
theorem I6{tb:Option Str}(V:ah r=true)(h2:ax r=true):
 tG 458 ct tb r x fs [] []=some (true,zG 304 ct (aw tb) (aO r) x fs [] []):=
 by cases tb<;>exact d6 [iO,iE,iF,iF,iF,iT] (by kernel_rfl) V h2
theorem I7{tb:Option Str}(V:ah r=true)(h2:ax r=false)(h3:cur r∈(bJ [0,45,60])):
 tG 458 ct tb r x fs [] []=some (true,zG 451 ct (aw tb) (aj r) x fs [.obj 14] [a8 1 (kc r)]):=
 by cases tb<;>exact t0 [iO,iE,iC "-",iC "<",iC "\x00",iF,iT] (by kernel_rfl) V h2 (by kernel_rfl) h3
theorem LH{tb:Option Str}(V:ah r=true)(h2:ax r=false)(h3:cur r∈[45]):
 tG 465 ct tb r x fs [] []=some (true,zG 465 ct (aw tb) (aj r) x fs [.obj 14] [a8 1 "-"]):=
 by cases tb<;>exact t0 [iO,iE,iC "-",iT] (by kernel_rfl) V h2 (by kernel_rfl) h3
theorem LI{tb:Option Str}(V:ah r=true)(h2:ax r=false)(h3:cur r∈[60]):
 tG 465 ct tb r x fs [] []=some (true,zG 472 ct (aw tb) (aj r) x fs [] []):=
 by cases tb<;>exact t0 [iO,iE,iC "-",iC "<"] (by kernel_rfl) V h2 (by kernel_rfl) h3
theorem LJ{tb:Option Str}(V:ah r=true)(h2:ax r=false)(h3:cur r∈[62]):
 tG 465 ct tb r x fs [] []=some (true,zG 339 ct (aw tb) (aj r) x fs [.obj 14] [a8 1 ">"]):=
 by cases tb<;>exact t0 [iO,iE,iC "-",iC "<",iC ">",iT] (by kernel_rfl) V h2 (by kernel_rfl) h3
theorem I8{tb:Option Str}(V:ah r=true)(h2:ax r=false)(h3:cur r∈[0]):
 tG 465 ct tb r x fs [] []=some (true,zG 451 ct (aw tb) (aj r) x fs [.obj 14, .obj 15] [cB "invalid-codepoint",a8 1 "�"]):=
 by cases tb<;>exact t0 [iO,iE,iC "-",iC "<",iC ">",iC "\x00",iT,iT] (by kernel_rfl) V h2 (by kernel_rfl) h3
theorem I9{tb:Option Str}(V:ah r=true)(h2:ax r=true):
 tG 465 ct tb r x fs [] []=some (true,zG 304 ct (aw tb) (aO r) x fs [] []):=
 by cases tb<;>exact d6 [iO,iE,iF,iF,iF,iF,iT] (by kernel_rfl) V h2
theorem I_{tb:Option Str}(V:ah r=true)(h2:ax r=false)(h3:cur r∈(bJ [0,45,60,62])):
 tG 465 ct tb r x fs [] []=some (true,zG 451 ct (aw tb) (aj r) x fs [.obj 14] [a8 1 (kc r)]):=
 by cases tb<;>exact t0 [iO,iE,iC "-",iC "<",iC ">",iC "\x00",iF,iT] (by kernel_rfl) V h2 (by kernel_rfl) h3
theorem LK{tb:Option Str}(V:ah r=true)(h2:ax r=false)(h3:cur r∈[47]):
 tG 472 ct tb r x fs [] []=some (true,zG 479 ct (aw (some "")) (aj r) x fs [] []):=
 by cases tb<;>exact t0 [iO,iE,iC "/"] (by kernel_rfl) V h2 (by kernel_rfl) h3
theorem I'{tb:Option Str}(V:ah r=true)(h2:ax r=false)(h3:cur r∈bL):
 tG 472 ct tb r x fs [] []=some (true,zG 493 ct (aw (some (kc r))) (aj r) x fs [.obj 14] [a8 1 ("<"++kc r)]):=
 by cases tb<;>exact t0 [iO,iE,iC "/",iL,iT,iT] (by kernel_rfl) V h2 (by kernel_rfl) h3
theorem Ja{tb:Option Str}(V:ah r=true)(h2:ax r=false)(h3:cur r∈(bJ (bL++[47])))(e0:(ah (aj r)&&(decide (1<=(aj r).off)&&decide ((kc r)=one (dm (aj r)))))=true):
 tG 472 ct tb r x fs [] []=some (true,zG 451 ct (aw tb) (back (aj r)) x fs [.obj 14] [a8 1 "<"]):=
 by cases tb<;>exact t1 [iO,iE,iC "/",iL,iT,iX 0] (by kernel_rfl) V h2 (by kernel_rfl) h3 e0
theorem Jb{tb:Option Str}(V:ah r=true)(h2:ax r=true):
 tG 472 ct tb r x fs [] []=some (true,zG 451 ct (aw tb) (aO r) x fs [.obj 14] [a8 1 "<"]):=
 by cases tb<;>exact d6 [iO,iE,iF,iF,iT] (by kernel_rfl) V h2
theorem Jc{tb:Str}(V:ah r=true)(h2:ax r=false)(h3:cur r∈(cC++[47,62]))(e0:(fits (Txt.lower tb).length)=true)(e1:(decide (Txt.lower tb="script"))=true):
 tG 493 ct (some tb) r x fs [] []=some (true,zG 500 ct (aw (some tb)) (aj r) x fs [.obj 14] [a8 1 (kc r)]):=
 t2 [iO,iE,iT,iT,iI ["\t","\n","\x0c"," ","\x0d","/",">"],iT,iX 0,iX 1] (by kernel_rfl) V h2 (by kernel_rfl) h3 e0 e1
theorem Jd{tb:Str}(V:ah r=true)(h2:ax r=false)(h3:cur r∈(cC++[47,62]))(e0:(fits (Txt.lower tb).length)=true)(e1:(decide (Txt.lower tb="script"))=false):
 tG 493 ct (some tb) r x fs [] []=some (true,zG 451 ct (aw (some tb)) (aj r) x fs [.obj 14] [a8 1 (kc r)]):=
 t2 [iO,iE,iT,iT,iI ["\t","\n","\x0c"," ","\x0d","/",">"],iT,iX 0,iX 1] (by kernel_rfl) V h2 (by kernel_rfl) h3 e0 e1
theorem Je{tb:Str}(V:ah r=true)(h2:ax r=false)(h3:cur r∈bL)(e0:(fits tb.length&&fits 1)=true):
 tG 493 ct (some tb) r x fs [] []=some (true,zG 493 ct (aw (some (tb++kc r))) (aj r) x fs [.obj 14] [a8 1 (kc r)]):=
 t1 [iO,iE,iT,iT,iI ["\t","\n","\x0c"," ","\x0d","/",">"],iL,iT,iX 0] (by kernel_rfl) V h2 (by kernel_rfl) h3 e0
theorem Jf{tb:Str}(V:ah r=true)(h2:ax r=false)(h3:cur r∈(bJ (bL++cC++[47,62])))(e0:(ah (aj r)&&(decide (1<=(aj r).off)&&decide ((kc r)=one (dm (aj r)))))=true):
 tG 493 ct (some tb) r x fs [] []=some (true,zG 451 ct (aw (some tb)) (back (aj r)) x fs [] []):=
 t1 [iO,iE,iT,iT,iI ["\t","\n","\x0c"," ","\x0d","/",">"],iL,iX 0] (by kernel_rfl) V h2 (by kernel_rfl) h3 e0
theorem Jg{tb:Str}(V:ah r=true)(h2:ax r=true):
 tG 493 ct (some tb) r x fs [] []=some (true,zG 451 ct (aw (some tb)) (aO r) x fs [] []):=
 d6 [iO,iE,iT,iT,iF,iF] (by kernel_rfl) V h2
theorem Jh{tb:Str}(V:ah r=true)(h2:ax r=false)(h3:cur r∈(cC++[47,62]))(e0:(fits (Txt.lower tb).length)=true)(e1:(decide (Txt.lower tb="script"))=true):
 tG 528 ct (some tb) r x fs [] []=some (true,zG 451 ct (aw (some tb)) (aj r) x fs [.obj 14] [a8 1 (kc r)]):=
 t2 [iO,iE,iT,iT,iI ["\t","\n","\x0c"," ","\x0d","/",">"],iT,iX 0,iX 1] (by kernel_rfl) V h2 (by kernel_rfl) h3 e0 e1
theorem Ji{tb:Str}(V:ah r=true)(h2:ax r=false)(h3:cur r∈(cC++[47,62]))(e0:(fits (Txt.lower tb).length)=true)(e1:(decide (Txt.lower tb="script"))=false):
 tG 528 ct (some tb) r x fs [] []=some (true,zG 500 ct (aw (some tb)) (aj r) x fs [.obj 14] [a8 1 (kc r)]):=
 t2 [iO,iE,iT,iT,iI ["\t","\n","\x0c"," ","\x0d","/",">"],iT,iX 0,iX 1] (by kernel_rfl) V h2 (by kernel_rfl) h3 e0 e1
theorem Jj{tb:Str}(V:ah r=true)(h2:ax r=false)(h3:cur r∈bL)(e0:(fits tb.length&&fits 1)=true):
 tG 528 ct (some tb) r x fs [] []=some (true,zG 528 ct (aw (some (tb++kc r))) (aj r) x fs [.obj 14] [a8 1 (kc r)]):=
 t1 [iO,iE,iT,iT,iI ["\t","\n","\x0c"," ","\x0d","/",">"],iL,iT,iX 0] (by kernel_rfl) V h2 (by kernel_rfl) h3 e0
theorem Jk{tb:Str}(V:ah r=true)(h2:ax r=false)(h3:cur r∈(bJ (bL++cC++[47,62])))(e0:(ah (aj r)&&(decide (1<=(aj r).off)&&decide ((kc r)=one (dm (aj r)))))=true):
 tG 528 ct (some tb) r x fs [] []=some (true,zG 500 ct (aw (some tb)) (back (aj r)) x fs [] []):=
 t1 [iO,iE,iT,iT,iI ["\t","\n","\x0c"," ","\x0d","/",">"],iL,iX 0] (by kernel_rfl) V h2 (by kernel_rfl) h3 e0
theorem Jl{tb:Str}(V:ah r=true)(h2:ax r=true):
 tG 528 ct (some tb) r x fs [] []=some (true,zG 500 ct (aw (some tb)) (aO r) x fs [] []):=
 d6 [iO,iE,iT,iT,iF,iF] (by kernel_rfl) V h2
theorem LL{tb:Option Str}(V:ah r=true)(h2:ax r=false)(h3:cur r∈[45]):
 tG 500 ct tb r x fs [] []=some (true,zG 507 ct (aw tb) (aj r) x fs [.obj 14] [a8 1 "-"]):=
 by cases tb<;>exact t0 [iO,iE,iC "-",iT] (by kernel_rfl) V h2 (by kernel_rfl) h3
theorem LM{tb:Option Str}(V:ah r=true)(h2:ax r=false)(h3:cur r∈[60]):
 tG 500 ct tb r x fs [] []=some (true,zG 521 ct (aw tb) (aj r) x fs [.obj 14] [a8 1 "<"]):=
 by cases tb<;>exact t0 [iO,iE,iC "-",iC "<",iT] (by kernel_rfl) V h2 (by kernel_rfl) h3
theorem Jm{tb:Option Str}(V:ah r=true)(h2:ax r=false)(h3:cur r∈[0]):
 tG 500 ct tb r x fs [] []=some (true,zG 500 ct (aw tb) (aj r) x fs [.obj 14, .obj 15] [cB "invalid-codepoint",a8 1 "�"]):=
 by cases tb<;>exact t0 [iO,iE,iC "-",iC "<",iC "\x00",iT,iT] (by kernel_rfl) V h2 (by kernel_rfl) h3
theorem Jn{tb:Option Str}(V:ah r=true)(h2:ax r=true):
 tG 500 ct tb r x fs [] []=some (true,zG 304 ct (aw tb) (aO r) x fs [.obj 14] [cB "eof-in-script-in-script"]):=
 by cases tb<;>exact d6 [iO,iE,iF,iF,iF,iT,iT] (by kernel_rfl) V h2
theorem Jo{tb:Option Str}(V:ah r=true)(h2:ax r=false)(h3:cur r∈(bJ [0,45,60])):
 tG 500 ct tb r x fs [] []=some (true,zG 500 ct (aw tb) (aj r) x fs [.obj 14] [a8 1 (kc r)]):=
 by cases tb<;>exact t0 [iO,iE,iC "-",iC "<",iC "\x00",iF,iT] (by kernel_rfl) V h2 (by kernel_rfl) h3
theorem LN{tb:Option Str}(V:ah r=true)(h2:ax r=false)(h3:cur r∈[45]):
 tG 507 ct tb r x fs [] []=some (true,zG 514 ct (aw tb) (aj r) x fs [.obj 14] [a8 1 "-"]):=
 by cases tb<;>exact t0 [iO,iE,iC "-",iT] (by kernel_rfl) V h2 (by kernel_rfl) h3
theorem LO{tb:Option Str}(V:ah r=true)(h2:ax r=false)(h3:cur r∈[60]):
 tG 507 ct tb r x fs [] []=some (true,zG 521 ct (aw tb) (aj r) x fs [.obj 14] [a8 1 "<"]):=
 by cases tb<;>exact t0 [iO,iE,iC "-",iC "<",iT] (by kernel_rfl) V h2 (by kernel_rfl) h3
theorem Jp{tb:Option Str}(V:ah r=true)(h2:ax r=false)(h3:cur r∈[0]):
 tG 507 ct tb r x fs [] []=some (true,zG 500 ct (aw tb) (aj r) x fs [.obj 14, .obj 15] [cB "invalid-codepoint",a8 1 "�"]):=
 by cases tb<;>exact t0 [iO,iE,iC "-",iC "<",iC "\x00",iT,iT] (by kernel_rfl) V h2 (by kernel_rfl) h3
theorem Jq{tb:Option Str}(V:ah r=true)(h2:ax r=true):
 tG 507 ct tb r x fs [] []=some (true,zG 304 ct (aw tb) (aO r) x fs [.obj 14] [cB "eof-in-script-in-script"]):=
 by cases tb<;>exact d6 [iO,iE,iF,iF,iF,iT,iT] (by kernel_rfl) V h2
theorem Jr{tb:Option Str}(V:ah r=true)(h2:ax r=false)(h3:cur r∈(bJ [0,45,60])):
 tG 507 ct tb r x fs [] []=some (true,zG 500 ct (aw tb) (aj r) x fs [.obj 14] [a8 1 (kc r)]):=
 by cases tb<;>exact t0 [iO,iE,iC "-",iC "<",iC "\x00",iF,iT] (by kernel_rfl) V h2 (by kernel_rfl) h3
end
section
variable{r:RS}{ct:U}{x:X5}{fs:List AO}
theorem LP{tb:Option Str}(V:ah r=true)(h2:ax r=false)(h3:cur r∈[45]):
 tG 514 ct tb r x fs [] []=some (true,zG 514 ct (aw tb) (aj r) x fs [.obj 14] [a8 1 "-"]):=
 by cases tb<;>exact t0 [iO,iE,iC "-",iT] (by kernel_rfl) V h2 (by kernel_rfl) h3
theorem LQ{tb:Option Str}(V:ah r=true)(h2:ax r=false)(h3:cur r∈[60]):
 tG 514 ct tb r x fs [] []=some (true,zG 521 ct (aw tb) (aj r) x fs [.obj 14] [a8 1 "<"]):=
 by cases tb<;>exact t0 [iO,iE,iC "-",iC "<",iT] (by kernel_rfl) V h2 (by kernel_rfl) h3
theorem LR{tb:Option Str}(V:ah r=true)(h2:ax r=false)(h3:cur r∈[62]):
 tG 514 ct tb r x fs [] []=some (true,zG 339 ct (aw tb) (aj r) x fs [.obj 14] [a8 1 ">"]):=
 by cases tb<;>exact t0 [iO,iE,iC "-",iC "<",iC ">",iT] (by kernel_rfl) V h2 (by kernel_rfl) h3
theorem Js{tb:Option Str}(V:ah r=true)(h2:ax r=false)(h3:cur r∈[0]):
 tG 514 ct tb r x fs [] []=some (true,zG 500 ct (aw tb) (aj r) x fs [.obj 14, .obj 15] [cB "invalid-codepoint",a8 1 "�"]):=
 by cases tb<;>exact t0 [iO,iE,iC "-",iC "<",iC ">",iC "\x00",iT,iT] (by kernel_rfl) V h2 (by kernel_rfl) h3
theorem Jt{tb:Option Str}(V:ah r=true)(h2:ax r=true):
 tG 514 ct tb r x fs [] []=some (true,zG 304 ct (aw tb) (aO r) x fs [.obj 14] [cB "eof-in-script-in-script"]):=
 by cases tb<;>exact d6 [iO,iE,iF,iF,iF,iF,iT,iT] (by kernel_rfl) V h2
theorem Ju{tb:Option Str}(V:ah r=true)(h2:ax r=false)(h3:cur r∈(bJ [0,45,60,62])):
 tG 514 ct tb r x fs [] []=some (true,zG 500 ct (aw tb) (aj r) x fs [.obj 14] [a8 1 (kc r)]):=
 by cases tb<;>exact t0 [iO,iE,iC "-",iC "<",iC ">",iC "\x00",iF,iT] (by kernel_rfl) V h2 (by kernel_rfl) h3
theorem LS{tb:Option Str}(V:ah r=true)(h2:ax r=false)(h3:cur r∈[47]):
 tG 521 ct tb r x fs [] []=some (true,zG 528 ct (aw (some "")) (aj r) x fs [.obj 14] [a8 1 "/"]):=
 by cases tb<;>exact t0 [iO,iE,iC "/",iT] (by kernel_rfl) V h2 (by kernel_rfl) h3
theorem Jv{tb:Option Str}(V:ah r=true)(h2:ax r=false)(h3:cur r∈(bJ [47]))(e0:(ah (aj r)&&(decide (1<=(aj r).off)&&decide ((kc r)=one (dm (aj r)))))=true):
 tG 521 ct tb r x fs [] []=some (true,zG 500 ct (aw tb) (back (aj r)) x fs [] []):=
 by cases tb<;>exact t1 [iO,iE,iC "/",iX 0] (by kernel_rfl) V h2 (by kernel_rfl) h3 e0
theorem Jw{tb:Option Str}(V:ah r=true)(h2:ax r=true):
 tG 521 ct tb r x fs [] []=some (true,zG 500 ct (aw tb) (aO r) x fs [] []):=
 by cases tb<;>exact d6 [iO,iE,iF] (by kernel_rfl) V h2
theorem Am{tb:Option Str}(V:ah r=true)(h2:ax r=true):
 tG 304 ct tb r x fs [] []=some (false,zG 304 ct (aw tb) (aO r) x fs [] []):=
 by cases tb<;>exact d6 [iO,iE,iF,iF,iF,iT] (by kernel_rfl) V h2
theorem LT{tb tn:Str}(V:ah r=true)(h2:ax r=false)(h3:cur r∈[62])(e0:(eU tn)=true):
 tG 535 (.obj 15) (some tb) r x fs [] [.list [],bQ tn 14 false]=some (true,zG 304 (.obj 15) (aw (some tb)) (aj r) x fs [.obj 15] [.list [],bQ (aX tn) 14 false]):=
 t1 [iO,iE,iS,iL,iC ">",iT,iX 0,iT,iF,iT,iT,iF,iF,iT] (by kernel_rfl) V h2 (by kernel_rfl) h3 e0
theorem An{tb tn:Str}(V:ah r=true)(h2:ax r=false)(h3:cur r∈bL):
 tG 535 (.obj 15) (some tb) r x fs [] [.list [],bQ tn 14 false]=some (true,zG 542 (.obj 15) (aw (some tb)) (aj r) x fs [] [.list [.obj 16],bQ tn 14 false, .list [.str (kc r), .str ""]]):=
 t0 [iO,iE,iS,iL,iT,iT] (by kernel_rfl) V h2 (by kernel_rfl) h3
theorem LU{tb tn an:Str}(V:ah r=true)(h2:ax r=false)(h3:cur r∈[62])(e0:(eU an)=true)(e1:(eU tn)=true):
 tG 542 (.obj 15) (some tb) r x fs [] [.list [.obj 16],bQ tn 14 false, .list [.str an, .str ""]]=some (true,zG 304 (.obj 15) (aw (some tb)) (aj r) x fs [.obj 18, .obj 15] [.list [.obj 16],bQ (aX tn) 14 false, .list [.str (aX an), .str ""], .list [],cB "attributes-in-end-tag"]):=
 t2 [iO,iE,iC "=",iL,iC ">",iT,iT,iT,iX 0,iT,iT,iT,iT,iT,iX 1,iT,iF,iT,iT,iT,iT,iF,iT] (by kernel_rfl) V h2 (by kernel_rfl) h3 e0 e1
theorem LV{tb tn:Str}(V:ah r=true)(h2:ax r=false)(h3:cur r∈[62])(e0:(eU tn)=true):
 tG 591 (.obj 15) (some tb) r x fs [] [.list [],bQ tn 14 false]=some (true,zG 304 (.obj 15) (aw (some tb)) (aj r) x fs [.obj 16, .obj 15] [.list [],bQ (aX tn) 14 true,cB "self-closing-flag-on-end-tag"]):=
 t1 [iO,iE,iC ">",iT,iT,iX 0,iT,iF,iT,iT,iF,iT,iT,iT] (by kernel_rfl) V h2 (by kernel_rfl) h3 e0
end
section
variable{r:RS}{x:X5}{fs:List AO}{tb tn an:Str}
theorem Jx(V:ah r=true)(h2:ax r=true):
 tG 535 (.obj 15) (some tb) r x fs [] [.list [],bQ tn 14 false]=some (true,zG 304 (.obj 15) (aw (some tb)) (aO r) x fs [.obj 16] [.list [],bQ tn 14 false,cB "expected-attribute-name-but-got-eof"]):=
 d6 [iO,iE,iF,iF,iF,iF,iT,iF,iF,iT,iT] (by kernel_rfl) V h2
theorem Jy(V:ah r=true)(h2:ax r=true):
 tG 591 (.obj 15) (some tb) r x fs [] [.list [],bQ tn 14 false]=some (true,zG 304 (.obj 15) (aw (some tb)) (aO r) x fs [.obj 16] [.list [],bQ tn 14 false,cB "unexpected-EOF-after-solidus-in-tag"]):=
 d6 [iO,iE,iF,iT,iT] (by kernel_rfl) V h2
theorem Jz(V:ah r=true)(h2:ax r=true)(e0:eU an=true):
 tG 542 (.obj 15) (some tb) r x fs [] [.list [.obj 16],bQ tn 14 false, .list [.str an, .str ""]]=some (true,zG 304 (.obj 15) (aw (some tb)) (aO r) x fs [.obj 17] [.list [.obj 16],bQ tn 14 false, .list [.str (aX an), .str ""],cB "eof-in-attribute-name", .list []]):=
 T_ [iO,iE,iF,iF,iF,iF,iF,iF,iT,iF,iT,iT,iT,iT,iT,iX 0,iT,iT,iT,iF] (by kernel_rfl) V h2 e0
end
noncomputable def fH(tn:Str):List AO:=[.list [],bQ tn 14 false]
noncomputable def mj(tn:Str)(b:Str):List AO:=[.list [.obj 16],bQ tn 14 false, .list [.str b, .str ""]]
section
variable{st:Nat}{tb tn b p:Str}{r:RS}{xs at_:List U}{T:Str}{size:Int}{sc:Bool}{so:Option (U×Int)}{tk:AO}{ds:List AO}
theorem PL:dB (bH 15 13) (cX (bH 15 13) (zS T size so (aN st (.obj 15) (aw (some tb)) r (al xs tk) [] (.list at_::bQ p 14 sc::ds))))=zS T size (lu (bH 15 13) so) (aN st (.obj 12) (aw (some tb)) r (al (xs.map (d5 (cz false (bH 15 13) id 0 (aN st (.obj 15) (aw (some tb)) r (al xs tk) [] (.list at_::bQ p 14 sc::ds))) (bH 15 13))) (au 4 p sc)) [] []):=by
 cases so<;>kernel_rfl
theorem PM:g5 (bH 15 13) (cX (bH 15 13) (zS T size so (aN st (.obj 15) (aw (some tb)) r (al xs tk) [] (.list at_::bQ p 14 sc::ds))))=(cm (bH 15 13) (xs.map (d5 (cz false (bH 15 13) id 0 (aN st (.obj 15) (aw (some tb)) r (al xs tk) [] (.list at_::bQ p 14 sc::ds))) (bH 15 13)))&&true):=by kernel_rfl
theorem Sl(h:eF st kX=false){fs:List AO}:eJ ⟨fs,aN st (.obj 15) (aw (some tb)) r (al xs tk) [] ds⟩=bH 15 13:=by
 show cond (Nat.ble 14 15&&eF st kX) _ _=_
 rw[h];rfl
theorem Bs(h:eF st kX=false){ys:List U}(hy:xs.map (d5 (cz false (bH 15 13) id 0 (aN st (.obj 15) (aw (some tb)) r (al xs tk) [] (.list at_::bQ p 14 sc::ds))) (bH 15 13))=ys)(hx:cm (bH 15 13) ys=true):
 g8 (co T size so (aN st (.obj 15) (aw (some tb)) r (al xs tk) [] (.list at_::bQ p 14 sc::ds))) [.frame (mi T size (lu (bH 15 13) so))] (aN st (.obj 12) (aw (some tb)) r (al ys (au 4 p sc)) [] []):=by
 refine .of (ks:=bH 15 13) (Sl h) rfl ?_ ?_
 ·refine Eq.trans PM ?_
  rw[hy,hx];rfl
 ·refine Eq.trans PL ?_
  rw[hy]
noncomputable abbrev OE(n:Nat)(os:List AO):List AO:=cz false (List.range n) id 0 os
variable{kk:Int}{nm:Str}{bb:Bool}
theorem PN:dB (List.range 16) (cX (List.range 16) (zS T size so (aN st (.obj 15) (aw (some tb)) r (al xs (au kk nm bb)) [] (fH tn))))=zS T size (lu (List.range 16) so) (aN st (.obj 15) (aw (some tb)) r (al (xs.map (d5 (OE 16 (aN st (.obj 15) (aw (some tb)) r (al xs (au kk nm bb)) [] (fH tn))) (List.range 16))) (au kk nm bb)) [] (fH tn)):=by
 cases so<;>kernel_rfl
theorem PO:g5 (List.range 16) (cX (List.range 16) (zS T size so (aN st (.obj 15) (aw (some tb)) r (al xs (au kk nm bb)) [] (fH tn))))=(cm (List.range 16) (xs.map (d5 (OE 16 (aN st (.obj 15) (aw (some tb)) r (al xs (au kk nm bb)) [] (fH tn))) (List.range 16)))&&true):=by kernel_rfl
theorem PP:dB (List.range 17) (cX (List.range 17) (zS T size so (aN st (.obj 15) (aw (some tb)) r (al xs (au kk nm bb)) [] (mj tn b))))=zS T size (lu (List.range 17) so) (aN st (.obj 15) (aw (some tb)) r (al (xs.map (d5 (OE 17 (aN st (.obj 15) (aw (some tb)) r (al xs (au kk nm bb)) [] (mj tn b))) (List.range 17))) (au kk nm bb)) [] (mj tn b)):=by
 cases so<;>kernel_rfl
theorem PQ:g5 (List.range 17) (cX (List.range 17) (zS T size so (aN st (.obj 15) (aw (some tb)) r (al xs (au kk nm bb)) [] (mj tn b))))=(cm (List.range 17) (xs.map (d5 (OE 17 (aN st (.obj 15) (aw (some tb)) r (al xs (au kk nm bb)) [] (mj tn b))) (List.range 17)))&&true):=by kernel_rfl
theorem C5(h:eF st kX=true){fs:List AO}:eJ ⟨fs,aN st (.obj 15) (aw (some tb)) r (al xs tk) [] ds⟩=List.range (aN st (.obj 15) (aw (some tb)) r (al xs tk) [] ds).length:=by
 show cond (Nat.ble 14 15&&eF st kX) _ _=_
 rw[h];rfl
theorem mX(h:eF st kX=true)(hx:cm (List.range 16) xs=true):g8 (co T size so (aN st (.obj 15) (aw (some tb)) r (al xs (au kk nm bb)) [] (fH tn))) [.frame (mi T size (lu (List.range 16) so))] (aN st (.obj 15) (aw (some tb)) r (al xs (au kk nm bb)) [] (fH tn)):=by
 refine .of (ks:=List.range 16) (C5 h) rfl ?_ ?_
 ·refine Eq.trans PO ?_
  rw[kB hx,hx];rfl
 ·refine Eq.trans PN ?_
  rw[kB hx]
theorem Bt(h:eF st kX=true)(hx:cm (List.range 17) xs=true):g8 (co T size so (aN st (.obj 15) (aw (some tb)) r (al xs (au kk nm bb)) [] (mj tn b))) [.frame (mi T size (lu (List.range 17) so))] (aN st (.obj 15) (aw (some tb)) r (al xs (au kk nm bb)) [] (mj tn b)):=by
 refine .of (ks:=List.range 17) (C5 h) rfl ?_ ?_
 ·refine Eq.trans PQ ?_
  rw[kB hx,hx];rfl
 ·refine Eq.trans PP ?_
  rw[kB hx]
end
structure RC where
 T:Str
 nm:Str
 size:Int
noncomputable abbrev ZC(c:RC)(kk:Int)(bb:Bool)(st:Nat)(tb:Option Str)(r:RS)(xs:List U)(so:Option (U×Int))(ds:List AO):ES:=co c.T c.size so (aN st (.obj 12) (aw tb) r (al xs (au kk c.nm bb)) [] ds)
noncomputable abbrev Turn(c:RC)(xs:List U)(st:Nat)(tb:Option Str)(r:RS)(b:Bool)(cD:Nat)(dD:Option Str)(r':RS)(q:List U)(ds:List AO):Prop:=∀kk bb fs,tG st (.obj 12) tb r (al xs (au kk c.nm bb)) fs [] []=some (b,zG cD (.obj 12) (aw dD) r' (al xs (au kk c.nm bb)) fs q ds)
noncomputable abbrev Go(c:RC)(n:Nat)(Q:FL×ES->Prop)(st:Nat)(tb:Option Str)(r:RS)(xs:List U):Prop:=∀kk bb so ds,(GL n false bg (ZC c kk bb st tb r xs so ds)).Holds Q
noncomputable def dv(xs:List U):Prop:=∀ks,cm ks xs=true
section
variable{c:RC}{n:Nat}{Q:FL×ES->Prop}{st cD:Nat}{tb dD:Option Str}{r r':RS}{xs:List U}{p e:Str}
theorem Ua(hx:dv xs)(ht:Turn c xs st tb r true cD dD r' [] [])(h:Go c n Q cD dD r' xs):Go c (n+2) Q st tb r xs:=λkk bb so ds=>
 dU (fS (hx _)) (ht _ _ _) (dW (h _ _ _ _))
theorem stC(hx:dv xs)(ht:Turn c xs st tb r true cD dD r' [.obj 14] [a8 1 p])(hs:eE xs p=true)(h:Go c n Q cD dD r' (cb xs p)):Go c (n+3) Q st tb r xs:=λkk bb so ds=>
 dU (fS (hx _)) (ht _ _ _) (gn rfl (NQ hs) (dW (h _ _ _ _)))
theorem Ub(hx:dv xs)(ht:Turn c xs st tb r true cD dD r' [.obj 14] [cB e])(hs:fits xs.length=true)(h:Go c n Q cD dD r' (xs++[b_ e])):Go c (n+3) Q st tb r xs:=λkk bb so ds=>
 dU (fS (hx _)) (ht _ _ _) (gn rfl (Ce hs) (dW (h _ _ _ _)))
theorem Sm(hx:dv xs)(ht:Turn c xs st tb r true cD dD r' [.obj 14, .obj 15] [cB e,a8 1 p])(hs:fits xs.length=true)(U:eE (xs++[b_ e]) p=true)(h:Go c n Q cD dD r' (cb (xs++[b_ e]) p)):Go c (n+4) Q st tb r xs:=λkk bb so ds=>
 dU (fS (hx _)) (ht _ _ _) (gn rfl (Ce hs) (gn rfl (NR U) (dW (h _ _ _ _))))
noncomputable def fV(c:RC)(Q:FL×ES->Prop)(r:RS)(xs:List U):Prop:=∀so st more tk ds,Q (.next,co c.T c.size so (aN st (.obj 12) more r (al xs tk) [] ds))
theorem Ud(hx:dv xs)(ht:Turn c xs st tb r false cD dD r' [] [])(h:fV c Q r' xs):Go c (n+1) Q st tb r xs:=λkk bb so ds=>
 AY (fS (hx _)) (ht _ _ _) (h _ _ _ _ _)
theorem Cf{z U:ES}{fs os:List AO}(V:g8 z fs os)(h2:g8 U fs os)(h:(GL n false bg U).Holds Q):(GL n false bg z).Holds Q:=by
 cases n with
 |zero=>exact h
 |succ n=>
  unfold GL at h⊢
  rw[ot,t7]at h⊢
  unfold mc jz at h⊢
  have h:=h.1 h2.1
  rw[show dB (pG.kf ⟨.frame bg::U.fs,U.os⟩) (cX (pG.kf ⟨.frame bg::U.fs,U.os⟩) ⟨.frame bg::U.fs,U.os⟩)=_ from h2.2]at h
  refine⟨λ_=> ?_,λe=>by rw[show(jo 0 pG.k (pG.kf ⟨.frame bg::z.fs,z.os⟩)&&g5 (pG.kf ⟨.frame bg::z.fs,z.os⟩) (cX (pG.kf ⟨.frame bg::z.fs,z.os⟩) ⟨.frame bg::z.fs,z.os⟩))=true from V.1]at e;cases e⟩
  rw[show dB (pG.kf ⟨.frame bg::z.fs,z.os⟩) (cX (pG.kf ⟨.frame bg::z.fs,z.os⟩) ⟨.frame bg::z.fs,z.os⟩)=_ from V.2]
  exact h
end
section
variable{c:RC}{n:Nat}{Q:FL×ES->Prop}{st:Nat}{tb tn b:Str}{r r':RS}{xs at_:List U}{sc:Bool}{ds:List AO}{tk:AO}
theorem JA{p:Str}{o:Option Str}:dv [g_ p o sc]:=λks=>by cases o<;>rfl
theorem dv.app{xs ys:List U}(h:dv xs)(h':dv ys):dv (xs++ys):=λks=>by rw[F6,h,h'];rfl
theorem oF{e:Str}:dv [b_ e]:=λks=>rfl
theorem tt(hx:dv xs){o:Option Str}(ho:∀V,d5 (cz false (bH 15 13) id 0 (aN 339 (.obj 15) (aw (some tb)) r V [] (.list at_::bQ c.nm 14 sc::ds))) (bH 15 13) (pE c.nm sc)=g_ c.nm o sc)(h:Go c n Q 339 (some tb) r (xs++[g_ c.nm o sc])):
 (GL n false bg (co c.T c.size (some (.obj 15,4)) (aN 339 (.obj 15) (aw (some tb)) r (al (xs++[pE c.nm sc]) tk) [] (.list at_::bQ c.nm 14 sc::ds)))).Holds Q:=by
 have U:=hx.app (JA (sc:=sc) (p:=c.nm) (o:=o))
 refine Cf (Bs (ys:=xs++[g_ c.nm o sc]) rfl ?_ (U _)) (fS (so:=some (.obj 12,4)) (U _)) (h 4 sc _ [])
 rw[List.map_append,kB (hx _)]
 exact congrArg (xs++[·]) (ho _)
theorem wI{U:X5}:d5 (cz false (bH 15 13) id 0 (aN 339 (.obj 15) (aw (some tb)) r U [] (.list []::bQ c.nm 14 sc::ds))) (bH 15 13) (pE c.nm sc)=g_ c.nm none sc:=by kernel_rfl
theorem Sn{U:X5}:d5 (cz false (bH 15 13) id 0 (aN 339 (.obj 15) (aw (some tb)) r U [] (.list [.obj 16]::bQ c.nm 14 sc:: .list [.str b, .str ""]::ds))) (bH 15 13) (pE c.nm sc)=g_ c.nm (some b) sc:=by kernel_rfl
theorem NS(hx:dv xs)(hf:fits xs.length=true)(hn:aX tb=c.nm)
 (ht:∀kk bb fs,tG st (.obj 12) (some tb) r (al xs (au kk c.nm bb)) fs [] []=some (true,zG 304 (.obj 15) (aw (some tb)) r' (al xs (au kk c.nm bb)) fs [.obj 15] [.list [],bQ (aX tb) 14 false]))(h:Go c n Q 339 (some tb) r' (xs++[g_ c.nm none false])):Go c (n+3) Q st (some tb) r xs:=by
 rw[hn]at ht
 exactλkk bb so ds=>dU (fS (hx _)) (ht _ _ _) (gn rfl (rZ hf) (dW (tt hx (λ_=>wI) h)))
theorem NT(hx:dv xs)(hf:fits xs.length=true)(hn:aX tb=c.nm)(V:ah r'=true)(h2:ax r'=false)(h3:cur r'=62)(hs:eU tb=true)
 (ht:∀kk bb fs,tG st (.obj 12) (some tb) r (al xs (au kk c.nm bb)) fs [] []=some (true,zG 535 (.obj 15) (aw (some tb)) r' (al xs (au kk c.nm bb)) fs [] (fH tb)))(h:Go c n Q 339 (some tb) (aj r') (xs++[g_ c.nm none false])):Go c (n+5) Q st (some tb) r xs:=λkk bb so ds=>by
 have hb:=λ(fs:List AO)=>LT (tb:=tb) (tn:=tb) (x:=al xs (au kk c.nm bb)) (fs:=fs) V h2 (by rw[h3];decide) hs
 rw[hn]at hb
 exact dU (fS (hx _)) (ht _ _ _) (dW (dU (mX rfl (hx _)) (hb _) (gn rfl (rZ hf) (dW (tt hx (λ_=>wI) h)))))
theorem NU(hx:dv xs)(hf:xs.length<=100000)(hn:aX tb=c.nm)(V:ah r'=true)(h2:ax r'=false)(h3:cur r'=62)(hs:eU tb=true)
 (ht:∀kk bb fs,tG st (.obj 12) (some tb) r (al xs (au kk c.nm bb)) fs [] []=some (true,zG 591 (.obj 15) (aw (some tb)) r' (al xs (au kk c.nm bb)) fs [] (fH tb)))(h:Go c n Q 339 (some tb) (aj r') ((xs++[b_ "self-closing-flag-on-end-tag"])++[g_ c.nm none true])):Go c (n+6) Q st (some tb) r xs:=λkk bb so ds=>by
 have hb:=λ(fs:List AO)=>LV (tb:=tb) (tn:=tb) (x:=al xs (au kk c.nm bb)) (fs:=fs) V h2 (by rw[h3];decide) hs
 rw[hn]at hb
 exact dU (fS (hx _)) (ht _ _ _) (dW (dU (mX rfl (hx _)) (hb _) (gn rfl (v6 (bq (by lia))) (gn rfl (rZ (by rw[List.length_append];exact bq (by show xs.length+1<=_;lia))) (dW (tt (hx.app oF) (λ_=>wI) h))))))
theorem NW(hx:dv xs)(hf:xs.length<=100000)(hn:aX tb=c.nm)(V:ah r'=true)(h2:ax r'=false)(h3:cur r'=66\/cur r'=98)(hs:eU tb=true)(k1:ah (aj r')=true)(k2:ax (aj r')=false)(U:cur (aj r')=62)
 (ht:∀kk bb fs,tG st (.obj 12) (some tb) r (al xs (au kk c.nm bb)) fs [] []=some (true,zG 535 (.obj 15) (aw (some tb)) r' (al xs (au kk c.nm bb)) fs [] (fH tb)))(h:Go c n Q 339 (some tb) (aj (aj r')) ((xs++[b_ "attributes-in-end-tag"])++[g_ c.nm (some "b") false])):Go c (n+8) Q st (some tb) r xs:=λkk bb so ds=>by
 have hl:aX (kc r')="b"/\eU (kc r')=true:=by unfold kc;rcases h3 with h3|h3<;>rw[h3]<;>exact⟨by decide,by decide⟩
 have hb:=λ(fs:List AO)=>An (tb:=tb) (tn:=tb) (x:=al xs (au kk c.nm bb)) (fs:=fs) V h2 (by rcases h3 with h3|h3<;>rw[h3]<;>decide)
 have ha:=λ(fs:List AO)=>LU (tb:=tb) (tn:=tb) (an:=kc r') (x:=al xs (au kk c.nm bb)) (fs:=fs) k1 k2 (by rw[U];decide) hl.2 hs
 rw[hn,hl.1]at ha
 exact dU (fS (hx _)) (ht _ _ _) (dW (dU (mX rfl (hx _)) (hb _) (dW (dU (Bt rfl (hx _)) (ha _) (gn rfl (PH (bq (by lia))) (gn rfl (rZ (by rw[List.length_append];exact bq (by show xs.length+1<=_;lia))) (dW (tt (hx.app oF) (λ_=>Sn) h))))))))
theorem v7(hx:dv xs)(V:ah r=true)(h2:ax r=true)(h:fV c Q (aO r) xs){so:Option (U×Int)}:
 (GL (n+1) false bg (co c.T c.size so (aN 304 (.obj 15) (aw (some tb)) r (al xs tk) [] (.list at_::bQ tn 14 sc::ds)))).Holds Q:=
 AY (Bs (ys:=xs) rfl (kB (hx _)) (hx _)) (Am (tb:=some tb) V h2) (h _ _ _ _ _)
theorem NX(hx:dv xs)(hf:fits xs.length=true)(V:ah r'=true)(h2:ax r'=true)(k1:ah (aO r')=true)(k2:ax (aO r')=true)
 (ht:∀kk bb fs,tG st (.obj 12) (some tb) r (al xs (au kk c.nm bb)) fs [] []=some (true,zG 535 (.obj 15) (aw (some tb)) r' (al xs (au kk c.nm bb)) fs [] (fH tb)))(h:fV c Q (aO (aO r')) (xs++[b_ "expected-attribute-name-but-got-eof"])):Go c (n+6) Q st (some tb) r xs:=λkk bb so ds=>
 dU (fS (hx _)) (ht _ _ _) (dW (dU (mX rfl (hx _)) (Jx V h2) (gn rfl (v6 hf) (dW (v7 (hx.app oF) k1 k2 h)))))
theorem NY(hx:dv xs)(hf:fits xs.length=true)(V:ah r'=true)(h2:ax r'=true)(k1:ah (aO r')=true)(k2:ax (aO r')=true)
 (ht:∀kk bb fs,tG st (.obj 12) (some tb) r (al xs (au kk c.nm bb)) fs [] []=some (true,zG 591 (.obj 15) (aw (some tb)) r' (al xs (au kk c.nm bb)) fs [] (fH tb)))(h:fV c Q (aO (aO r')) (xs++[b_ "unexpected-EOF-after-solidus-in-tag"])):Go c (n+6) Q st (some tb) r xs:=λkk bb so ds=>
 dU (fS (hx _)) (ht _ _ _) (dW (dU (mX rfl (hx _)) (Jy V h2) (gn rfl (v6 hf) (dW (v7 (hx.app oF) k1 k2 h)))))
theorem NZ(hx:dv xs)(hf:fits xs.length=true)(V:ah r'=true)(h2:ax r'=false)(h3:cur r'=66\/cur r'=98)(g1:ah (aj r')=true)(g2:ax (aj r')=true)(k1:ah (aO (aj r'))=true)(k2:ax (aO (aj r'))=true)
 (ht:∀kk bb fs,tG st (.obj 12) (some tb) r (al xs (au kk c.nm bb)) fs [] []=some (true,zG 535 (.obj 15) (aw (some tb)) r' (al xs (au kk c.nm bb)) fs [] (fH tb)))(h:fV c Q (aO (aO (aj r'))) (xs++[b_ "eof-in-attribute-name"])):Go c (n+8) Q st (some tb) r xs:=λkk bb so ds=>
 dU (fS (hx _)) (ht _ _ _) (dW (dU (mX rfl (hx _)) (An V h2 (by rcases h3 with h3|h3<;>rw[h3]<;>decide)) (dW (dU (Bt rfl (hx _)) (Jz g1 g2 (by unfold kc;rcases h3 with h3|h3<;>rw[h3]<;>decide)) (gn rfl (PG hf) (dW (v7 (hx.app oF) k1 k2 h)))))))
end
noncomputable def mm:Scope:=(aW 820).scope
noncomputable abbrev jF(m:Nat):Stmt->EM FL:=B1 S1 dk iW jE mm [] (λ_=>eJ) m
theorem JB{args:List U}{bs es:List (Str×U)}{m:Nat}{fs os:List AO}(h2:gW (aW 820) args=some bs)
 (h3:gl mm.names [] ⟨.frame []::fs,os⟩= .leaf ([],⟨.frame []::fs,os⟩))(h4:storeAll mm [] bs ⟨.frame []::fs,os⟩= .leaf ((),⟨.frame es::fs,os⟩)):
 lS S1 dk jD 3000 40 (λ_=>eJ) m 820 args ⟨fs,os⟩=finish (aB (jF m) (aW 820).body ⟨.frame es::fs,os⟩):=by
 have V:S1.fn 820=some (aW 820):=by kernel_rfl
 unfold lS
 show bl (S1.fn 820) _ _=_
 unfold bl
 rw[V]
 show Option.casesOn (motive:=λ_=>DT (U×ES)) (gW (aW 820) args) _ _=_
 rw[h2]
 show(((gl mm.names [] ⟨.frame []::fs,os⟩).bind λr=>(storeAll mm r.1 bs r.2).bind λr'=>aB (CV S1 dk jD 3000 40 (λ_=>eJ) m mm r.1).St (aW 820).body r'.2).bind nw).bind _=_
 rw[h3]
 show(((storeAll mm [] bs ⟨.frame []::fs,os⟩).bind λr'=>aB (jF m) (aW 820).body r'.2).bind nw).bind _=_
 rw[h4]
 rfl
noncomputable def wJ:List Stmt:=(aW 820).body
theorem LW:(aW 820).body=wJ.take 5++[forR,iH]:=by kernel_rfl
noncomputable def sC(T:Str)(size:Int):List (Str×U):=[("text", .str T),("size", .int size)]
theorem LX{T:Str}{size:Int}{m:Nat}:lS S1 dk jD 3000 40 (λ_=>eJ) m 820 [.str T, .int size] ⟨[],[]⟩=finish (aB (jF m) (aW 820).body ⟨[.frame (sC T size)],[]⟩):=
 JB (bs:=sC T size) (by kernel_rfl) (by kernel_rfl) (by kernel_rfl)
noncomputable def mn(T:Str):RS:=⟨T,"",0,0,0,0,0⟩
noncomputable def Ue:List (Str×U):=[("stream", .obj 3),("parser", .none),("escapeFlag", .bool false),("lastFourChars", .obj 8),("state", .aU 339 (.obj 1)),("escape", .bool false),("currentToken", .obj 10)]
noncomputable def C6(r:RS):List AO:=aT (.dict Ue) (.inst 762 0) r [.list [], .dict [],C4 "script", .list []]
noncomputable def Uf:List (Str×U):=[("stream", .obj 3),("parser", .none),("escapeFlag", .bool false),("lastFourChars", .obj 8),("state", .aU 339 (.obj 1)),("escape", .bool false),("currentToken", .obj 10),("tokenQueue", .obj 12)]
noncomputable def wK(r:RS):List AO:=aT (.dict Uf) (.inst 762 0) r [.list [], .dict [],C4 "script", .list [], .list []]
section
variable{T:Str}{size:Int}{m:Nat}{r:RS}
theorem PR(h:dz (mn T) size=true):(aB (jF m) (wJ.take 5) ⟨[.frame (sC T size)],[]⟩).eval=some (FL.next,co T size none (C6 (bc (mn T) size))):=
 DT.aQ (cs:=[true,true,true,true,true]) (bs:=[true,true,true,dz (mn T) size,true]) (by kernel_rfl) (by rw[h])
theorem PS:jF m forR (co T size none (C6 r))= .test true (GL m false bg (co T size none (wK r))) .fail:=by kernel_rfl
theorem So:g8 (co T size none (wK r)) [.frame (mi T size none)] (aN 339 (.obj 12) [] r (al [] (au 3 "script" false)) [] []):=⟨by kernel_rfl,by kernel_rfl⟩
theorem JC{Q:FL×ES->Prop}{n:Nat}(h:Go ⟨T,"script",size⟩ n Q 339 none r []):(GL n false bg (co T size none (wK r))).Holds Q:=
 Cf So (fS (so:=none) (ds:=[]) (tb:=none) rfl) (h 3 false none [])
end
theorem bw{x:Str}:(cps x).length=x.length:=Array.length_toList
theorem tW(x:Str)(c hi limit:Nat):∀n a (acc:Array Nat) fr,fr<=a->acc.size+n<=limit->
 (forIn (List.range' a n) (acc,fr) (StrLaws.occBody x ⟨#[c]⟩ hi limit)).run.1.toList=acc.toList++(List.range' a n).filter λi=>decide (i+1<=hi)&&Builtin.Str.subAt x ⟨#[c]⟩ i
 |0,a,acc,fr,V,h2=>by simp
 |n+1,a,acc,fr,V,h2=>by
  rw[List.range'_succ,List.forIn_cons,List.filter_cons]
  unfold StrLaws.occBody
  have hlen:(⟨#[c]⟩:Str).length=1:=rfl
  by_cases h:a+1<=hi/\Builtin.Str.subAt x ⟨#[c]⟩ a=true
  ·rw[if_pos ⟨⟨⟨by show acc.size<limit;lia,V⟩,by rw[hlen];exact h.1⟩,h.2⟩]
   rw[if_pos (by rw[decide_eq_true h.1,h.2];rfl)]
   have:=tW x c hi limit n (a+1) (acc.push a) (a+(⟨#[c]⟩:Str).length) (by rw[hlen];lia) (by rw[Array.size_push];lia)
   refine this.trans ?_
   rw[Array.toList_push,List.append_assoc];rfl
  ·rw[if_neg (λq=>h ⟨by have:=q.1.2;rw[hlen]at this;exact this,q.2⟩)]
   rw[if_neg (λq=>by
    rw[Bool.and_eq_true]at q
    exact h ⟨of_decide_eq_true q.1,q.2⟩)]
   exact tW x c hi limit n (a+1) acc fr (by lia) (by lia)
theorem sub_one{x:Str}{c i:Nat}:Builtin.Str.subAt x ⟨#[c]⟩ i=decide ((cps x)[i]?=some c):=by
 rw[StrLaws.subAt_eq,Bool.eq_iff_iff,beq_iff_eq,decide_eq_true_iff]
 show List.take 1 (List.drop i (cps x))=[c]<->_
 rcases Nat.lt_or_ge i (cps x).length with h|h
 ·rw[List.drop_eq_getElem_cons h,List.getElem?_eq_getElem h]
  simp only[List.take_succ_cons,List.take_zero,List.cons.injEq,and_true,Option.some.injEq]
 ·rw[List.drop_eq_nil_of_le h,List.getElem?_eq_none h]
  simp
theorem yt(l:List Nat)(c:Nat):∀n a,a+n<=l.length->((List.range' a n).filter λi=>decide (l[i]?=some c)).length=((l.drop a).take n).count c
 |0,a,h=>by simp
 |n+1,a,h=>by
  have ih:=yt l c n (a+1) (by lia)
  have ha:a<l.length:=by lia
  rw[List.range'_succ,List.filter_cons,List.drop_eq_getElem_cons ha,List.take_succ_cons,List.count_cons,List.getElem?_eq_getElem ha]
  by_cases e:l[a]=c
  ·rw[if_pos (by simp[e]),List.length_cons,ih,if_pos (by simp[e])]
  ·rw[if_neg (by simp[e]),ih,if_neg (by simp[e])];rfl
theorem Fz{a n m:Nat}:List.range' a (n+m)=List.range' a n++List.range' (a+n) m:=by
 rw[List.range'_append_1]
noncomputable def lc:List Nat->Nat×Nat
 |l=>l.foldl (λp c=>if c=10 then(p.1+1,0)else(p.1,p.2+1)) (0,0)
theorem oP(l:List Nat)(c:Nat):lc (l++[c])=if c=10 then((lc l).1+1,0)else((lc l).1,(lc l).2+1):=by
 unfold lc;rw[List.foldl_append];rfl
theorem LY{x:Str}{c hi limit:Nat}(hl:hi+1<=limit):Builtin.Str.occurrences x ⟨#[c]⟩ 0 hi limit=(List.range' 0 (hi+1)).filter λi=>decide (i+1<=hi)&&decide ((cps x)[i]?=some c):=by
 rw[StrLaws.occ_eq,tW x c hi limit (hi+1-0) 0 #[] 0 (Nat.le_refl _) (by show 0+_<=_;lia)]
 simp only[sub_one];rfl
theorem LZ{x:Str}{hi:Nat}(h:hi<=x.length):pd x jC 0 hi=(((cps x).take hi).count 10:Nat):=by
 unfold pd
 congr 1
 show(Builtin.Str.occurrences x ⟨#[10]⟩ 0 hi (x.length+1)).length=_
 rw[LY (by lia),Fz (a:=0) (n:=hi) (m:=1),List.filter_append]
 have V:(List.range' 0 hi).filter (λi=>decide (i+1<=hi)&&decide ((cps x)[i]?=some 10))=(List.range' 0 hi).filter (λi=>decide ((cps x)[i]?=some 10)):=by
  apply List.filter_congr
  intro i U
  have:=(List.mem_range'_1.mp U).2
  rw[decide_eq_true (by lia),Bool.true_and]
 have h2:(List.range' (0+hi) 1).filter (λi=>decide (i+1<=hi)&&decide ((cps x)[i]?=some 10))=[]:=by
  rw[List.filter_eq_nil_iff]
  intro i U
  have:=(List.mem_range'_1.mp U).1
  rw[decide_eq_false (by lia)];simp
 rw[V,h2,List.append_nil,yt (cps x) 10 hi 0 (by rw[bw];lia)];rfl
theorem snoc_ind{P:List Nat->Prop}(nil:P [])(snoc:∀l c,P l->P (l++[c]))(l:List Nat):P l:=by
 have:∀r:List Nat,P r.reverse:=by
  intro r
  induction r with
  |nil=>exact nil
  |cons c r ih=>rw[List.reverse_cons];exact snoc _ _ ih
 simpa using this l.reverse
theorem L0(l:List Nat):(lc l).1=l.count 10/\((∀i:Nat,l[i]?≠some 10)->(lc l).2=l.length)/\(∀i:Nat,l[i]?=some 10->(∀k:Nat,i<k->l[k]?≠some 10)->(lc l).2+i+1=l.length):=by
 induction l using snoc_ind with
 |nil=>exact⟨rfl,λ_=>rfl,λi h=>by simp at h⟩
 |snoc l c ih=>
  obtain⟨W,i2,Y⟩:=ih
  rw[oP]
  by_cases U:c=10
  ·subst U
   rw[if_pos rfl]
   refine⟨by rw[List.count_append,<-W];rfl,λh=> ?_,λi V h2=> ?_⟩
   ·exact absurd (by simp) (h l.length)
   ·have hi:i<(l++[10]).length:=(List.getElem?_eq_some_iff.mp V).1
    rw[List.length_append,List.length_singleton]at hi⊢
    rcases Nat.lt_or_ge i l.length with q|q
    ·exact absurd (by simp) (h2 l.length q)
    ·show 0+i+1=_
     lia
  ·rw[if_neg U]
   refine⟨by rw[List.count_append,<-W,List.count_singleton,if_neg (by simpa using U)];rfl,λh=> ?_,λi V h2=> ?_⟩
   ·show(lc l).2+1=_
    rw[List.length_append,List.length_singleton,i2 λi hi=>h i (by rw[List.getElem?_append_left (List.getElem?_eq_some_iff.mp hi).1];exact hi)]
   ·have hi:i<l.length:=by
     have:=(List.getElem?_eq_some_iff.mp V).1
     rw[List.length_append,List.length_singleton]at this
     rcases Nat.lt_or_ge i l.length with q|q
     ·exact q
     ·have:i=l.length:=by lia
      subst this
      simp at V
      exact absurd V U
    rw[List.getElem?_append_left hi]at V
    have:=Y i V λk hk X=>h2 k hk (by rw[List.getElem?_append_left (List.getElem?_eq_some_iff.mp X).1];exact X)
    show(lc l).2+1+i+1=_
    rw[List.length_append,List.length_singleton];lia
theorem GK{x:Str}{hi:Nat}(h:hi<=x.length):(gR x jC 0 hi=-1/\∀i:Nat,((cps x).take hi)[i]?≠some 10)\/∃i:Nat,gR x jC 0 hi=(i:Int)/\((cps x).take hi)[i]?=some 10/\∀k:Nat,i<k->((cps x).take hi)[k]?≠some 10:=by
 have U:∀i:Nat,StrLaws.At x ⟨#[10]⟩ hi i<->((cps x).take hi)[i]?=some 10:=λi=>by
  unfold StrLaws.At
  rw[sub_one,decide_eq_true_iff,List.getElem?_take]
  show i+1<=hi/\_<->_
  constructor
  ·rintro⟨V,h2⟩;rw[if_pos (by lia)];exact h2
  ·intro q
   split at q
   ·exact⟨by lia,q⟩
   ·cases q
 have key:=StrLaws.last_run x ⟨#[10]⟩ hi (List.range' 0 (hi+1-0)) [] none (λ_ h=>nomatch h) (λ_ h=>nomatch h) (by simpa using List.pairwise_lt_range' (s:=0) (n:=hi+1-0))
 rw[<-StrLaws.last_eq]at key
 have mem:∀i,StrLaws.At x ⟨#[10]⟩ hi i->i∈[]++List.range' 0 (hi+1-0):=λi W=>by
  have:i+1<=hi:=W.1
  exact List.mem_append.mpr (.inr (List.mem_range'_1.mpr ⟨Nat.zero_le _,by lia⟩))
 unfold gR
 show(match Builtin.Str.lastOccurrence x ⟨#[10]⟩ 0 hi with|some i=>(i:Int)|none=>-1)=-1/\_\/∃i:Nat,(match Builtin.Str.lastOccurrence x ⟨#[10]⟩ 0 hi with|some i=>(i:Int)|none=>-1)=(i:Int)/\_
 cases hl:Builtin.Str.lastOccurrence x ⟨#[10]⟩ 0 hi with
 |none=>
  rw[hl]at key
  have key:∀i∈[]++List.range' 0 (hi+1-0),¬StrLaws.At x ⟨#[10]⟩ hi i:=key
  exact .inl ⟨rfl,λi W=>key i (mem i ((U i).mpr W)) ((U i).mpr W)⟩
 |some i=>
  rw[hl]at key
  have key:StrLaws.At x ⟨#[10]⟩ hi i/\∀k∈[]++List.range' 0 (hi+1-0),i<k->¬StrLaws.At x ⟨#[10]⟩ hi k:=key
  exact .inr ⟨i,rfl,(U i).mp key.1,λk hk X=>key.2 k (mem k ((U k).mpr X)) hk ((U k).mpr X)⟩
theorem N1(a b:List Nat):lc (a++b)=if(lc b).1=0 then((lc a).1,(lc a).2+(lc b).2)else((lc a).1+(lc b).1,(lc b).2):=by
 induction b using snoc_ind with
 |nil=>simp[lc]
 |snoc b c ih=>
  rw[<-List.append_assoc,oP,oP,ih]
  by_cases U:c=10
  ·rw[if_pos U,if_pos U]
   split<;>simp_all<;>lia
  ·rw[if_neg U,if_neg U]
   split<;>simp_all<;>lia
structure GoodR(T:Str)(n:Nat)(r:RS):Prop where
 hT:r.T=T
 ex:∃p s o,bj r p s o/\p-s+o=n/\r.lines=((lc ((cps T).take (p-s))).1:Nat)/\r.cols=((lc ((cps T).take (p-s))).2:Nat)
theorem qw{n a:Nat}:fromIndex n (a:Int)=a:=by
 unfold fromIndex
 rw[if_neg (by lia)];lia
theorem pos_at{T:Str}{r:RS}{p s o:Nat}(h:bj r p s o)(hT:r.T=T)(V:r.lines=((lc ((cps T).take (p-s))).1:Nat))(h2:r.cols=((lc ((cps T).take (p-s))).2:Nat)){m:Nat}(hm:m<=s):
 gB r (m:Int)=((lc ((cps T).take (p-s+m))).1:Nat)/\gE r (m:Int)=((lc ((cps T).take (p-s+m))).2:Nat):=by
 have hlen:(cps r.chunk).length=s:=h.mU
 have hl:r.chunk.length=s:=h.iG
 have W:kl r (m:Int)=m:=by unfold kl;rw[qw,hl];lia
 have e:(cps T).take (p-s+m)=(cps T).take (p-s)++(cps r.chunk).take m:=by
  have e1:cps r.chunk=((cps T).take p).drop (p-s):=by rw[h.ch,hT];simp[cps,aV,Mine.cut]
  rw[e1,List.take_drop,List.take_take,Nat.min_eq_left (by have:=h.sp;lia)]
  conv=>lhs;rw[<-List.take_append_drop (p-s) ((cps T).take (p-s+m))]
  rw[List.take_take,Nat.min_eq_left (by lia)]
 have f0:fromIndex r.chunk.length 0=0:=qw (a:=0)
 have Y:=LZ (x:=r.chunk) (hi:=m) (by lia)
 obtain⟨U,b2,b3⟩:=L0 ((cps r.chunk).take m)
 have X:((cps r.chunk).take m).length=m:=by rw[List.length_take,hlen];lia
 rw[e,N1]
 constructor
 ·unfold gB
  rw[f0,W,Y,V,<-U]
  split
  ·rename_i q;rw[q];simp
  ·simp
 ·unfold gE
  rw[f0,W]
  rcases GK (x:=r.chunk) (hi:=m) (by lia)with⟨k1,k2⟩|⟨i,k1,k2,Z⟩
  ·have z:(lc ((cps r.chunk).take m)).1=0:=by
    rw[U,List.count_eq_zero]
    intro J
    obtain⟨i,hi⟩:=List.mem_iff_getElem?.mp J
    exact k2 i hi
   rw[if_pos k1,if_pos z,h2,b2 k2,X]
   simp
  ·have z:¬(lc ((cps r.chunk).take m)).1=0:=by
    rw[U,List.count_eq_zero]
    intro hn
    exact hn (List.mem_iff_getElem?.mpr ⟨i,k2⟩)
   have:=b3 i k2 Z
   rw[X]at this
   rw[if_neg (by rw[k1];lia),if_neg z,k1]
   show(m:Int)-((i:Int)+1)=((lc ((cps r.chunk).take m)).2:Nat)
   lia
section
variable{T:Str}{n:Nat}{r:RS}
theorem GoodR.ah(h:GoodR T n r):ah r=true:=let⟨_,_,_,V,_⟩:=h.ex;V.ah
theorem GoodR.ef(h:GoodR T n r):ef r=n:=by
 obtain⟨p,s,o,V,h2,_⟩:=h.ex
 rw[V.n,h2]
theorem GoodR.small(h:GoodR T n r):T.length<=2000:=by
 obtain⟨p,s,o,V,h2,_⟩:=h.ex
 rw[<-h.hT];exact V.len
theorem GoodR.more(h:GoodR T n r){c:Nat}(U:(cps T)[n]?=some c):ax r=false/\cur r=c:=by
 have V:=(List.getElem?_eq_some_iff.mp U).1
 rw[bw]at V
 constructor
 ·unfold ax
  rw[h.ef,h.hT]
  cases q:Nat.ble T.length n with
  |false=>rfl
  |true=>have:=Nat.le_of_ble_eq_true q;lia
 ·unfold cur
  rw[h.ef,h.hT]
  show(cps T).getD n 0=c
  simp[List.getD,U]
theorem GoodR.eof(h:GoodR T T.length r):ax r=true:=by
 unfold ax
 rw[h.ef,h.hT]
 exact Nat.ble_eq_true_of_le (Nat.le_refl _)
theorem GoodR.read(h:GoodR T n r)(hs:∃p s,bj r p s s/\p=n)(k:Nat):GoodR T n (bc r (k:Int)):=by
 obtain⟨p,s,V,rfl⟩:=hs
 obtain⟨U,s',o',k1,k2,W,X⟩:=h.ex
 have hp:p=U:=by have:=V.hp;have:=k1.hp;lia
 have hs:s=s':=by have:=V.hs;have:=k1.hs;lia
 subst hp;subst hs
 have Y:=V.sp
 have ps:=pos_at k1 h.hT W X (Nat.le_refl s)
 rw[show p-s+s=p by lia]at ps
 refine⟨h.hT,_,_,_,V.read (k:=k),by lia, ?_, ?_⟩
 ·show gB r r.size=_
  rw[V.hs,ps.1,show p+min k (r.T.length-p)-min k (r.T.length-p)=p by lia]
 ·show gE r r.size=_
  rw[V.hs,ps.2,show p+min k (r.T.length-p)-min k (r.T.length-p)=p by lia]
theorem GoodR.atEnd(h:GoodR T n r)(hs:r.size<=r.off):∃p s,bj r p s s/\p=n:=by
 obtain⟨p,s,o,V,h2,_⟩:=h.ex
 have e:o=s:=by have:=V.hs;have:=V.ho;have:=V.os;lia
 subst e
 exact⟨p,o,V,by have:=V.sp;lia⟩
theorem GoodR.aj(h:GoodR T n r){c:Nat}(W:(cps T)[n]?=some c):GoodR T (n+1) (aj r):=by
 have X:=(List.getElem?_eq_some_iff.mp W).1
 rw[bw]at X
 unfold Mine.aj
 split
 ·rename_i hs
  have h2:=h.read (h.atEnd hs) 10240
  obtain⟨p,s,o,k1,k2,U,V⟩:=h2.ex
  have ho:o=0:=by
   have:=k1.ho
   have e:(bc r ((10240:Nat):Int)).off=0:=rfl
   rw[e]at this;lia
  subst ho
  have K:=h.small
  obtain⟨p0,s0,Y,q2⟩:=h.atEnd hs
  have Z:=Y.read (k:=10240)
  have es:s=min 10240 (r.T.length-p0):=by have:=k1.hs;have:=Z.hs;lia
  have L:r.T.length=T.length:=by rw[h.hT]
  refine⟨h.hT,p,s,1,⟨k1.good,k1.len,k1.hp,k1.hs,rfl,by lia,k1.sp,k1.pt,k1.ch⟩,by lia,U,V⟩
 ·rename_i hs
  obtain⟨p,s,o,k1,k2,U,V⟩:=h.ex
  have J:o<s:=by have:=k1.hs;have:=k1.ho;lia
  exact⟨h.hT,p,s,o+1,⟨k1.good,k1.len,k1.hp,k1.hs,by show r.off+1=_;rw[k1.ho];rfl,J,k1.sp,k1.pt,k1.ch⟩,by lia,U,V⟩
theorem GoodR.aO(h:GoodR T T.length r):GoodR T T.length (aO r):=by
 have he:=h.eof
 obtain⟨p,s,o,V,h2,_⟩:=h.ex
 obtain⟨e1,e2⟩:=V.eof.mp he
 exact h.read ⟨p,s,by rw[e1]at V;exact V,by rw[e2,h.hT]⟩ 10240
theorem GoodR.back(h:GoodR T n r){c:Nat}(U:(cps T)[n]?=some c):GoodR T n (back (Mine.aj r))/\(Mine.ah (Mine.aj r)&&(decide (1<=(Mine.aj r).off)&&decide (kc r=one (dm (Mine.aj r)))))=true:=by
 have ha:=h.aj U
 have e1:1<=(Mine.aj r).off:=by
  obtain⟨p,s,o,k1,_⟩:=h.ex
  unfold Mine.aj
  split
  ·show(1:Int)<=1;lia
  ·show 1<=r.off+1
   rw[k1.ho];lia
 constructor
 ·obtain⟨p,s,o,k1,k2,V,W⟩:=ha.ex
  have ho:1<=o:=by have:=k1.ho;lia
  obtain⟨o,rfl⟩:∃m,o=m+1:=⟨o-1,by lia⟩
  exact⟨ha.hT,p,s,o,k1.back,by lia,V,W⟩
 ·rw[ha.ah,decide_eq_true e1]
  have:dm (Mine.aj r)=c:=by
   unfold dm
   rw[ha.ef,ha.hT]
   show(cps T).getD (n+1-1) 0=c
   simp[List.getD,U]
  rw[this]
  unfold kc
  rw[(h.more U).2]
  simp
end
section
variable{T:Str}{n:Nat}{r:RS}{P:Nat->Bool}
theorem GoodR.Cg(h:GoodR T n r):∃p s o,bj r p s o/\p-s+o=n/\o+runN P ((cps r.chunk).drop o)<=s/\(dI P r).off=((o+runN P ((cps r.chunk).drop o):Nat):Int)/\GoodR T (n+runN P ((cps r.chunk).drop o)) (dI P r)/\bj (dI P r) p s (o+runN P ((cps r.chunk).drop o))/\
 runN P ((cps T).drop n)=(if runN P ((cps r.chunk).drop o)=s-o then(s-o)+runN P ((cps T).drop p)else runN P ((cps r.chunk).drop o)):=by
 obtain⟨p,s,o,V,h2,h3,h4⟩:=h.ex
 have hw:=V.sv P
 have hs:=V.dI P
 refine⟨p,s,o,V,h2,hw,hs.ho,⟨h.hT,p,s,_,hs,by rw[<-Nat.add_assoc,h2],h3,h4⟩,hs, ?_⟩
 have hr:=V.rest
 rw[h.hT,h2]at hr
 rw[hr,qU]
 have hl:((cps r.chunk).drop o).length=s-o:=by rw[List.length_drop,V.mU]
 rw[hl]
theorem GoodR.skip(h:GoodR T n r):GoodR T (n+runN P ((cps T).drop n)) (eD P r):=by
 obtain⟨p,s,o,V,h2,h3,h4,h5,E,K⟩:=h.Cg (P:=P)
 have L:=V.pt
 rw[h.hT]at L
 have big:∀x,T.length-x<=10240:=λx=>Nat.le_trans (Nat.sub_le _ _) (Nat.le_trans h.small (by decide))
 unfold eD
 by_cases U:(dI P r).off≠r.size
 ·rw[if_pos U,K,if_neg λq=>U (by rw[h4,V.hs,q,Nat.add_sub_cancel' V.os])]
  exact h5
 ·rw[if_neg U]
  have U:=Decidable.not_not.mp U
  rw[h4,V.hs]at U
  have Y:=Int.ofNat.inj U
  have N:runN P ((cps r.chunk).drop o)=s-o:=Nat.eq_sub_of_add_eq ((Nat.add_comm _ _).trans Y)
  have Z:n+runN P ((cps r.chunk).drop o)=p:=by rw[<-h2,Nat.add_assoc,Y,Nat.sub_add_cancel V.sp]
  have g1:GoodR T (n+runN P ((cps r.chunk).drop o)) (bc r 10240):=h5.read ⟨p,s,Y▸E,Z.symm⟩ 10240
  rw[K,if_pos N,<-Nat.add_assoc,<-N,Z]
  rw[Z]at g1
  have hn:(ap r 10240).length=T.length-p:=by
   have:=V.kU (k:=10240)
   rw[h.hT,Nat.min_eq_right (big p)]at this
   exact this
  by_cases hd:(ap r 10240).length=0
  ·rw[if_pos hd,List.drop_eq_nil_of_le (by rw[bw];exact Nat.le_of_sub_eq_zero (hn▸hd))]
   exact g1
  ·rw[if_neg hd]
   obtain⟨p2,s2,X,k1,k2,C,G,H,F,I⟩:=g1.Cg (P:=P)
   have M:p2=T.length:=by
    have e:(p2:Int)=_:=k1.hp.symm.trans (V.read (k:=10240)).hp
    have e:=Int.ofNat.inj e
    rw[h.hT,Nat.min_eq_right (big p),Nat.add_sub_cancel' L]at e
    exact e
   have O:runN P ((cps T).drop p2)=0:=by rw[List.drop_eq_nil_of_le (by rw[bw,M];exact Nat.le_refl _)];rfl
   by_cases W:(dI P (bc r 10240)).off≠(bc r 10240).size
   ·rw[if_pos W,I,if_neg λq=>W (by rw[G,k1.hs,q,Nat.add_sub_cancel' k1.os])]
    exact H
   ·rw[if_neg W]
    have W:=Decidable.not_not.mp W
    rw[G,k1.hs]at W
    have J:=Int.ofNat.inj W
    have D:runN P ((cps (bc r 10240).chunk).drop X)=s2-X:=Nat.eq_sub_of_add_eq ((Nat.add_comm _ _).trans J)
    have B:p+runN P ((cps (bc r 10240).chunk).drop X)=p2:=by rw[<-k2,Nat.add_assoc,J,Nat.sub_add_cancel k1.sp]
    have g2:GoodR T (p+runN P ((cps (bc r 10240).chunk).drop X)) (bc (bc r 10240) 10240):=H.read ⟨p2,s2,J▸F,B.symm⟩ 10240
    rw[I,if_pos D,O,Nat.add_zero,<-D]
    exact g2
theorem GoodR.eS(h:GoodR T n r){Q:Str->Bool}:eS Q r=aV T n (n+runN (pC Q) ((cps T).drop n)):=by
 unfold Mine.eS Bo
 rw[h.ef,h.hT];rfl
end
inductive RI where
 |text (p:List Nat)
 |err (e:Nat)
 |fin (b:Option (List Nat)) (sc:Bool)
noncomputable def eZ:Nat->Str
 |0=>"invalid-codepoint"
 |1=>"eof-in-script-in-script"
 |2=>"attributes-in-end-tag"
 |3=>"self-closing-flag-on-end-tag"
 |4=>"expected-attribute-name-but-got-eof"
 |5=>"unexpected-EOF-after-solidus-in-tag"
 |_=>"eof-in-attribute-name"
theorem zA(k:Nat):fits (eZ k).length=true:=by
 match k with
 |0=>rfl
 |1=>rfl
 |2=>rfl
 |3=>rfl
 |4=>rfl
 |5=>rfl
 |n+6=>rfl
noncomputable def ag(p:List Nat):Str:=⟨p.toArray⟩
theorem JD{p:List Nat}:cps (ag p)=p:=rfl
noncomputable def wL:RI->U
 | .text p=>cA (ag p)
 | .err e=>b_ (eZ e)
 | .fin b sc=>g_ "script" (b.map ag) sc
noncomputable abbrev ay(row:List RI):List U:=row.map wL
noncomputable def aJ(row:List RI)(p:List Nat):List RI:=match p with
 |[]=>row
 |_=>match row.getLast? with
  |some (.text q)=>row.dropLast++[.text (q++p)]
  |_=>row++[.text p]
noncomputable def hB:RI:= .err 0
noncomputable def ix(row:List RI)(c:Nat):List RI:=if c=0 then aJ (row++[hB]) [65533]else aJ row [c]
noncomputable def feed(row:List RI)(p:List Nat):List RI:=p.foldl ix row
theorem uB(R:List RI)(a b:List Nat):feed R (a++b)=feed (feed R a) b:=by unfold feed;rw[List.foldl_append]
theorem uj{row:List RI}{c:Nat}{p:List Nat}:aJ (aJ row [c]) p=aJ row (c::p):=by
 cases p with
 |nil=>rfl
 |cons d p=>
  have key:∀R:List RI,aJ R (d::p)=match R.getLast? with
   |some (.text q)=>R.dropLast++[.text (q++(d::p))]
   |_=>R++[.text (d::p)]:=λR=>rfl
  have U:∀(R:List RI) (x:List Nat),x≠[]->aJ R x=match R.getLast? with
   |some (.text q)=>R.dropLast++[.text (q++x)]
   |_=>R++[.text x]:=λR x hx=>by
   cases x with
   |nil=>exact absurd rfl hx
   |cons=>rfl
  rw[key,U row (c::d::p) (by simp),U row [c] (by simp)]
  cases hl:row.getLast? with
  |none=>simp
  |some a=>
   cases a with
   |text q=>simp
   |_=>simp
theorem zB{row:List RI}:∀{p:List Nat},0∉p->feed row p=aJ row p
 |[],_=>rfl
 |c::p,h=>by
  have U:c≠0:=λe=>h (by rw[e];exact .head _)
  show feed (ix row c) p=_
  unfold ix
  rw[if_neg U,zB (λq=>h (.tail _ q)),uj]
theorem getLast_map{α β:Type}(f:α->β)(l:List α):(l.map f).getLast?=l.getLast?.map f:=by
 rw[List.getLast?_eq_getElem?,List.getLast?_eq_getElem?,List.getElem?_map,List.length_map]
theorem Ao{α:Type}{l:List α}{a b:α}(h:l.getLast?=some a):l.set (l.length-1) b=l.dropLast++[b]:=by
 have U:l≠[]:=by intro e;rw[e]at h;cases h
 obtain⟨m,x,rfl⟩:∃m x,l=m++[x]:=⟨l.dropLast,l.getLast U,(List.dropLast_concat_getLast U).symm⟩
 simp
theorem yZ{row:List RI}{p:List Nat}:cb (ay row) (ag p)=ay (aJ row p):=by
 unfold cb
 cases p with
 |nil=>rfl
 |cons c p=>
  show Option.casesOn (gX (ay row)) (ay row++[cA (ag (c::p))]) (λq=>cond (decide (q.1="text")) ((ay row).set ((ay row).length-1) (cA (q.2++ag (c::p)))) (ay row++[cA (ag (c::p))]))=ay (match row.getLast? with
   |some (.text q)=>row.dropLast++[.text (q++(c::p))]
   |_=>row++[.text (c::p)])
  unfold gX
  rw[getLast_map]
  cases hl:row.getLast? with
  |none=>show ay row++[_]=ay (row++[_]);unfold ay;rw[List.map_append];rfl
  |some a=>
   cases a with
   |text q=>
    show(ay row).set ((ay row).length-1) (cA (ag q++ag (c::p)))=ay (row.dropLast++[.text (q++(c::p))])
    rw[Ao (a:=wL (.text q)) (by rw[getLast_map,hl];rfl)]
    unfold ay
    rw[List.map_append,<-List.map_dropLast]
    congr 1
    show[cA (ag q++ag (c::p))]=[cA (ag (q++(c::p)))]
    congr 2
    show(⟨q.toArray++(c::p).toArray⟩:Str)=⟨(q++(c::p)).toArray⟩
    rw[List.append_toArray]
   |_=>show ay row++[_]=ay (row++[_]);unfold ay;rw[List.map_append];rfl
theorem yA{ks:List Nat}:∀{row:List RI},cm ks (ay row)=true
 |[]=>rfl
 |a::row=>by
  show(fixed ks (wL a)&&cm ks (ay row))=true
  rw[yA (row:=row)]
  cases a<;>rfl
structure aK(n:Nat)(row:List RI):Prop where
 len:row.length<=2*n
 txt:∀q, .text q∈row->q.length<=n
theorem aK.mono{n m:Nat}{row:List RI}(h:aK n row)(hm:n<=m):aK m row:=⟨by have:=h.len;lia,λq U=>by have:=h.txt q U;lia⟩
theorem aK.say{n:Nat}{row:List RI}{p:List Nat}(V:row.length<=2*n+1)(h2:∀q, .text q∈row->q.length<=n)(hp:p.length=1):aK (n+1) (aJ row p):=by
 match p,hp with
 |[c],_=>
  show aK (n+1) (match row.getLast? with
   |some (.text q)=>row.dropLast++[.text (q++[c])]
   |_=>row++[.text [c]])
  cases hl:row.getLast? with
  |none=>
   refine⟨by rw[List.length_append];show _+1<=_;lia,λq U=> ?_⟩
   rcases List.mem_append.mp U with U|U
   ·have:=h2 q U;lia
   ·rcases List.mem_singleton.mp U with U;cases U;show 1<=_;lia
  |some a=>
   cases a with
   |text W=>
    refine⟨by rw[List.length_append,List.length_dropLast];show _+1<=_;lia,λq U=> ?_⟩
    rcases List.mem_append.mp U with U|U
    ·have:=h2 q (List.dropLast_subset _ U);lia
    ·rcases List.mem_singleton.mp U with U;cases U
     have:=h2 W (List.mem_of_getLast? hl)
     rw[List.length_append];show _+1<=_;lia
   |_=>
    refine⟨by rw[List.length_append];show _+1<=_;lia,λq U=> ?_⟩
    rcases List.mem_append.mp U with U|U
    ·have:=h2 q U;lia
    ·rcases List.mem_singleton.mp U with U;cases U;show 1<=_;lia
theorem zE{n:Nat}{R:List RI}(V:aK n R)(pre:List Nat):aK (n+pre.length) (feed R pre):=by
 induction pre using snoc_ind with
 |nil=>exact V
 |snoc l c ih=>
  rw[uB,List.length_append]
  show aK (n+l.length+1) (ix (feed R l) c)
  unfold ix
  split
  ·refine aK.say (by rw[List.length_append];have:=ih.len;show _+1<=_;lia) (λq U=> ?_) rfl
   rcases List.mem_append.mp U with U|U
   ·exact ih.txt q U
   ·rcases List.mem_singleton.mp U with U;cases U
  ·exact aK.say (by have:=ih.len;lia) ih.txt rfl
theorem y0{row:List RI}{p:List Nat}(V:row.length<=10000)(h2:∀q, .text q∈row->q.length<=10000)(h3:p.length<=10000):eE (ay row) (ag p)=true:=by
 unfold eE gX
 rw[bq (show(ag p).length<=1000000 by show p.toArray.size<=_;simp;lia),bq (by rw[List.length_map];lia),getLast_map]
 cases hl:row.getLast? with
 |none=>rw[List.getLast?_eq_none_iff.mp hl];rfl
 |some a=>
  refine(Bool.or_eq_true_iff (x:=(ay row).isEmpty)).mpr (.inr ?_)
  cases a with
  |text q=>
   show fits (ag q).length=true
   have:=h2 q (List.mem_of_getLast? hl)
   exact bq (by show q.toArray.size<=_;simp;lia)
  |err e=>exact zA e
  |fin b sc=>rfl
theorem gm(a b:List Nat):ag a++ag b=ag (a++b):=by
 show(⟨a.toArray++b.toArray⟩:Str)=⟨(a++b).toArray⟩
 rw[List.append_toArray]
theorem eA(c:Nat):one c=ag [c]:=rfl
theorem kI:("<":Str)=ag [60]:=by kernel_rfl
theorem lJ:("</":Str)=ag [60,47]:=by kernel_rfl
theorem JE:("<!":Str)=ag [60,33]:=by kernel_rfl
theorem kK:("-":Str)=ag [45]:=by kernel_rfl
theorem Bu:(">":Str)=ag [62]:=by kernel_rfl
theorem N2:("/":Str)=ag [47]:=by kernel_rfl
theorem kG:("�":Str)=ag [65533]:=by kernel_rfl
theorem rD:("":Str)=ag []:=by kernel_rfl
structure RD where
 c:RC
 b0:Nat
 R0:List RI
 hb:b0<=c.T.length
 hn:c.nm="script"
noncomputable def RD.T(d:RD):Str:=ag ((cps d.c.T).drop d.b0)
noncomputable def RD.nm(_:RD):Option Str:=some "script"
noncomputable def rowOf(c:RD)(pre:List Nat):List RI:=feed c.R0 pre
theorem zF{c:RD}(a b:List Nat):rowOf c (a++b)=feed (rowOf c a) b:=uB _ a b
structure bm(c:RD)(n:Nat)(r:RS):Prop where
 g:GoodR c.c.T (c.b0+n) r
section
variable{c:RD}{n ch:Nat}{r:RS}{P:Nat->Bool}
theorem rg(h:(cps c.T)[n]?=some ch):(cps c.c.T)[c.b0+n]?=some ch:=by
 rw[<-List.getElem?_drop];exact h
theorem mH:c.b0+c.T.length=c.c.T.length:=by
 have:c.T.length=(cps c.c.T).length-c.b0:=(List.size_toArray ..).trans (List.length_drop ..)
 rw[this,bw]
 exact Nat.add_sub_cancel' c.hb
theorem bm.ah(h:bm c n r):ah r=true:=h.g.ah
theorem bm.small(h:bm c n r):c.T.length<=2000:=by have:=h.g.small;have:=mH (c:=c);lia
theorem bm.more(h:bm c n r)(U:(cps c.T)[n]?=some ch):ax r=false/\cur r=ch:=h.g.more (rg U)
theorem bm.toEnd(h:bm c c.T.length r):GoodR c.c.T c.c.T.length r:=by have:=h.g;rw[mH]at this;exact this
theorem bm.PW(h:GoodR c.c.T c.c.T.length r):bm c c.T.length r:=⟨by rw[mH];exact h⟩
theorem bm.eof(h:bm c c.T.length r):ax r=true:=h.toEnd.eof
theorem bm.aj(h:bm c n r)(U:(cps c.T)[n]?=some ch):bm c (n+1) (aj r):=⟨h.g.aj (rg U)⟩
theorem bm.aO(h:bm c c.T.length r):bm c c.T.length (aO r):= .PW h.toEnd.aO
theorem bm.back(h:bm c n r)(U:(cps c.T)[n]?=some ch):bm c n (back (Mine.aj r))/\(Mine.ah (Mine.aj r)&&(decide (1<=(Mine.aj r).off)&&decide (kc r=one (dm (Mine.aj r)))))=true:=⟨⟨(h.g.back (rg U)).1⟩,(h.g.back (rg U)).2⟩
theorem zH:(cps c.T).drop n=(cps c.c.T).drop (c.b0+n):=List.drop_drop ..
theorem bm.skip(h:bm c n r):bm c (n+runN P ((cps c.T).drop n)) (eD P r):=⟨by rw[zH,<-Nat.add_assoc];exact h.g.skip⟩
theorem bm.eS(h:bm c n r){Q:Str->Bool}:eS Q r=ag (((cps c.T).drop n).take (runN (pC Q) ((cps c.T).drop n))):=by
 rw[h.g.eS,zH]
 show(⟨(((cps c.c.T).take (c.b0+n+_)).drop (c.b0+n)).toArray⟩:Str)=_
 rw[List.take_drop];rfl
end
noncomputable def Reach(c:RD)(Q:FL×ES->Prop)(st:Nat)(tb:Option Str)(n:Nat)(row:List RI):Prop:=∃U,∀N,U<=N->∀r,bm c n r->Go c.c N Q st tb r (ay row)
section
variable{c:RD}{Q:FL×ES->Prop}{st cD:Nat}{tb dD:Option Str}{n n':Nat}{row:List RI}{p:List Nat}
theorem eL{r:RS}{ch:Nat}(h:bm c n r)(U:(cps c.T)[n]?=some ch):kc r=one ch:=by unfold kc;rw[(h.more U).2]
theorem gP:dv (ay row):=λ_=>yA
theorem dq(hb:∀r,bm c n r->∃r',bm c n' r'/\Turn c.c (ay row) st tb r true cD dD r' [] [])(h:Reach c Q cD dD n' row):Reach c Q st tb n row:=by
 obtain⟨U,hN⟩:=h
 refine⟨U+2,λN hn r hr=> ?_⟩
 obtain⟨N,rfl⟩:∃m,N=m+2:=⟨N-2,by lia⟩
 obtain⟨r',V,h2⟩:=hb r hr
 exact Ua gP h2 (hN N (by lia) r' V)
theorem bC(am:aK 2000 row)(hp:p.length<=4000)(hb:∀r,bm c n r->∃r',bm c n' r'/\Turn c.c (ay row) st tb r true cD dD r' [.obj 14] [a8 1 (ag p)])(h:Reach c Q cD dD n' (aJ row p)):Reach c Q st tb n row:=by
 obtain⟨U,hN⟩:=h
 refine⟨U+3,λN hn r hr=> ?_⟩
 obtain⟨N,rfl⟩:∃m,N=m+3:=⟨N-3,by lia⟩
 obtain⟨r',V,h2⟩:=hb r hr
 refine stC gP h2 (y0 (by have:=am.len;lia) (λq W=>by have:=am.txt q W;lia) (by lia)) ?_
 rw[yZ]
 exact hN N (by lia) r' V
theorem kz{e:Nat}:ay row++[b_ (eZ e)]=ay (row++[.err e]):=by unfold ay;rw[List.map_append];rfl
theorem xP{e:Nat}(am:aK 2000 row)(hb:∀r,bm c n r->∃r',bm c n' r'/\Turn c.c (ay row) st tb r true cD dD r' [.obj 14] [cB (eZ e)])(h:Reach c Q cD dD n' (row++[.err e])):Reach c Q st tb n row:=by
 obtain⟨U,hN⟩:=h
 refine⟨U+3,λN hn r hr=> ?_⟩
 obtain⟨N,rfl⟩:∃m,N=m+3:=⟨N-3,by lia⟩
 obtain⟨r',V,h2⟩:=hb r hr
 refine Ub gP h2 (bq (by rw[List.length_map];have:=am.len;lia)) ?_
 rw[kz]
 exact hN N (by lia) r' V
theorem mo(am:aK 2000 row)(hb:∀r,bm c n r->∃r',bm c n' r'/\Turn c.c (ay row) st tb r true cD dD r' [.obj 14, .obj 15] [cB (eZ 0),a8 1 (ag [65533])])(h:Reach c Q cD dD n' (aJ (row++[hB]) [65533])):Reach c Q st tb n row:=by
 obtain⟨W,hN⟩:=h
 refine⟨W+4,λN hn r hr=> ?_⟩
 obtain⟨N,rfl⟩:∃m,N=m+4:=⟨N-4,by lia⟩
 obtain⟨r',V,h2⟩:=hb r hr
 have hl:=am.len
 refine Sm gP h2 (bq (by rw[List.length_map];lia)) ?_ ?_
 ·rw[kz]
  exact y0 (by rw[List.length_append];show _+1<=_;lia) (λq U=>by
   rcases List.mem_append.mp U with U|U
   ·have:=am.txt q U;lia
   ·rcases List.mem_singleton.mp U with U;cases U) (by decide)
 ·rw[kz,yZ]
  exact hN N (by lia) r' V
theorem D7(hb:∀r,bm c n r->∃r',bm c n r'/\Turn c.c (ay row) st tb r false cD dD r' [] [])(h:∀r,bm c n r->fV c.c Q r (ay row)):Reach c Q st tb n row:=
 ⟨1,λN hn r hr=>by
   obtain⟨N,rfl⟩:∃m,N=m+1:=⟨N-1,by lia⟩
   obtain⟨r',V,h2⟩:=hb r hr
   exact Ud gP h2 (h r' V)⟩
theorem uC{P:Nat->Bool}:∀(l:List Nat),∀x∈l.take (runN P l),P x=true
 |[],x,h=>by cases h
 |a::l,x,h=>by
  unfold runN at h
  cases q:P a with
  |false=>rw[q]at h;cases h
  |true=>
   rw[q]at h
   rcases List.mem_cons.mp h with rfl|h
   ·exact q
   ·exact uC l x h
end
theorem rh{x:Str}(h:∀ch∈cps x,ch<128):Txt.lower x=aX x:=by
 refine(lower_ascii h).trans ?_
 show(⟨x.cps.map lo1⟩:Str)=⟨(x.cps.toList.map aI).toArray⟩
 have e:x.cps.map lo1=(x.cps.toList.map lo1).toArray:=by
  apply Array.toList_inj.mp
  rw[Array.toList_map]
 have e2:x.cps.toList.map lo1=x.cps.toList.map aI:=List.map_congr_left λc U=>by
  have hs:=h c U
  have key:∀c,c<128->lo1 c=aI c:=by decide+kernel
  exact key c hs
 rw[e,e2]
theorem u_:∀ch∈bL,ch<128:=by decide
theorem iy{p:List Nat}(h:p.length<=100000):fits (ag p).length=true:=bq (by show p.toArray.size<=_;simp;lia)
theorem jS{x:Str}(h:x.length<=100000):fits (Txt.lower x).length=true:=bq (by have:=len_lower x;lia)
theorem de{p:List Nat}:(ag p).length=p.length:=by show p.toArray.size=_;simp
noncomputable def Mt(c:RD)(ls:List Nat):Prop:=∃nm,c.nm=some nm/\(cps nm).map aI=ls.map aI
structure sD(c:RD)(Q:FL×ES->Prop)(eo en b:Nat):Prop where
 tv:∀{n row ch},(cps c.T)[n]?=some ch->ch∈bL->Reach c Q en (some (ag [ch])) (n+1) row->Reach c Q eo (some (ag [])) n row
 tw:∀{n row ch},(cps c.T)[n]?=some ch->ch∈bJ bL->aK 2000 row->Reach c Q b (some (ag [])) n (aJ row [60,47])->Reach c Q eo (some (ag [])) n row
 tx:∀{row},aK 2000 row->Reach c Q b (some (ag [])) c.T.length (aJ row [60,47])->Reach c Q eo (some (ag [])) c.T.length row
 D8:∀{n row ch ls},ls.length<=2000->(cps c.T)[n]?=some ch->ch∈bL->Reach c Q en (some (ag (ls++[ch]))) (n+1) row->Reach c Q en (some (ag ls)) n row
 D9:∀{n row ch ls},ls.length<=2000->(cps c.T)[n]?=some ch->ch∈bJ (bL++cC++[47,62])->aK 2000 row->Reach c Q b (some (ag ls)) n (aJ row (60::47::ls))->Reach c Q en (some (ag ls)) n row
 D_:∀{n row ch ls},ls.length<=2000->(cps c.T)[n]?=some ch->ch∈cC++[47,62]->(∀x∈ls,x∈bL)->¬Mt c ls->aK 2000 row->Reach c Q b (some (ag ls)) n (aJ row (60::47::ls))->Reach c Q en (some (ag ls)) n row
 Ea:∀{row ls},ls.length<=2000->aK 2000 row->Reach c Q b (some (ag ls)) c.T.length (aJ row (60::47::ls))->Reach c Q en (some (ag ls)) c.T.length row
noncomputable def pH(c:RD):Prop:=∀nm,c.nm=some nm->nm.length<=2000/\∀ch∈cps nm,ch<128
theorem JF{nm:Str}{ls:List Nat}(V:∀ch∈cps nm,ch<128)(h2:∀x∈ls,x∈bL):Txt.lower nm=Txt.lower (ag ls)<->(cps nm).map aI=ls.map aI:=by
 rw[rh V,rh (x:=ag ls) λch U=>u_ ch (h2 ch U)]
 constructor
 ·intro h
  have:=congrArg (λs:Str=>s.cps.toList) h
  simpa[aX,cps,ag]using this
 ·intro h
  show(⟨((cps nm).map aI).toArray⟩:Str)=⟨(ls.map aI).toArray⟩
  rw[h]
theorem F7{ch:Nat}(h:ch∈cC++[47,62]):ch∈cC\/ch∈[47]\/ch∈[62]:=by
 rcases List.mem_append.mp h with h|h
 ·exact .inl h
 ·rcases List.mem_cons.mp h with h|h
  ·exact .inr (.inl (by rw[h];exact .head _))
  ·exact .inr (.inr h)
theorem Ch{c:RD}{Q:FL×ES->Prop}{V EN BB:Nat}(p:eI EN BB)(hn:pH c)
 (tv:∀{n row ch},(cps c.T)[n]?=some ch->ch∈bL->Reach c Q EN (some (ag [ch])) (n+1) row->Reach c Q V (some (ag [])) n row)
 (tw:∀{n row ch},(cps c.T)[n]?=some ch->ch∈bJ bL->aK 2000 row->Reach c Q BB (some (ag [])) n (aJ row [60,47])->Reach c Q V (some (ag [])) n row)
 (tx:∀{row},aK 2000 row->Reach c Q BB (some (ag [])) c.T.length (aJ row [60,47])->Reach c Q V (some (ag [])) c.T.length row):sD c Q V EN BB where
 tv:=tv
 tw:=tw
 tx:=tx
 D8:=λ{n row ch ls} hl U hm h=>dq (λr hr=>⟨_,hr.aj U,λkk bb fs=>by
  have hb:=Lr p (kk:=kk) (bb:=bb) (nm:=c.c.nm) (tb:=ag ls) (y8:= .list []) (y9:= .gone) (y10:= .gone) (y11:= .list (ay row)) (fs:=fs) hr.ah (hr.more U).1 (by rw[(hr.more U).2];exact hm) (by rw[c.hn];kernel_rfl) (jS (by rw[de];lia)) (by rw[iy (by lia)];rfl)
  rw[eL hr U,eA,gm]at hb
  exact hb⟩) h
 D9:=λ{n row ch ls} hl U hm am h=>bC (p:=60::47::ls) am (by show ls.length+2<=_;lia) (λr hr=>⟨_,(hr.back U).1,λkk bb fs=>by
  have hb:=Ls p (kk:=kk) (bb:=bb) (nm:=c.c.nm) (tb:=ag ls) (y8:= .list []) (y9:= .gone) (y10:= .gone) (y11:= .list (ay row)) (fs:=fs) hr.ah (hr.more U).1 (by rw[(hr.more U).2];exact hm) (by rw[c.hn];kernel_rfl) (jS (by rw[de];lia)) (by rw[iy (by lia)];rfl) (hr.back U).2
  rw[lJ,gm]at hb
  exact hb⟩) h
 D_:=λ{n row ch ls} hl U hm W X am h=>bC (p:=60::47::ls) am (by show ls.length+2<=_;lia) (λr hr=>⟨_,(hr.back U).1,λkk bb fs=>by
  have f1:fits (Txt.lower (ag ls)).length=true:=jS (by rw[de];lia)
  have f2:(fits 2&&fits (ag ls).length)=true:=by rw[iy (by lia)];rfl
  have f4:fits (Txt.lower c.c.nm).length=true:=by rw[c.hn];kernel_rfl
  have ne:decide (Txt.lower c.c.nm=Txt.lower (ag ls))=false:=decide_eq_false λq=>X ⟨_,rfl,(JF (hn _ rfl).2 W).mp (c.hn▸q)⟩
  have hb:tG EN (.obj 12) (some (ag ls)) r (al (ay row) (au kk c.c.nm bb)) fs [] []=some (true,zG BB (.obj 12) (aw (some (ag ls))) (Mine.back (Mine.aj r)) (al (ay row) (au kk c.c.nm bb)) fs [.obj 14] [a8 1 ("</"++ag ls)]):=by
   rcases F7 hm with hm|hm|hm
   ·exact Lu p hr.ah (hr.more U).1 (by rw[(hr.more U).2];exact hm) f4 f1 ne f2 (hr.back U).2
   ·exact Lv p hr.ah (hr.more U).1 (by rw[(hr.more U).2];exact hm) f4 f1 ne f2 (hr.back U).2
   ·exact Lw p hr.ah (hr.more U).1 (by rw[(hr.more U).2];exact hm) f4 f1 ne f2 (hr.back U).2
  rw[lJ,gm]at hb
  exact hb⟩) h
 Ea:=λ{row ls} hl am h=>bC (p:=60::47::ls) am (by show ls.length+2<=_;lia) (λr hr=>⟨_,hr.aO,λkk bb fs=>by
  have hb:=Lx p (kk:=kk) (bb:=bb) (nm:=c.c.nm) (tb:=ag ls) (y8:= .list []) (y9:= .gone) (y10:= .gone) (y11:= .list (ay row)) (fs:=fs) hr.ah hr.eof (by rw[c.hn];kernel_rfl) (jS (by rw[de];lia)) (by rw[iy (by lia)];rfl)
  rw[lJ,gm]at hb
  exact hb⟩) h
theorem N3{c:RD}{Q:FL×ES->Prop}(hn:pH c):sD c Q 423 430 339:=
 Ch .c hn
  (λ{n row ch} U hm h=>dq (λr hr=>⟨_,hr.aj U,λkk bb fs=>by
  have hb:=IQ (tb:=ag []) (ct:= .obj 12) (x:=al (ay row) (au kk c.c.nm bb)) (fs:=fs) hr.ah (hr.more U).1 (by rw[(hr.more U).2];exact hm) rfl
  rw[eL hr U,eA,gm]at hb
  exact hb⟩) h)
  (λ{n row ch} U hm am h=>bC am (by decide) (λr hr=>⟨_,(hr.back U).1,λkk bb fs=>by
  have hb:=IR (tb:=ag []) (ct:= .obj 12) (x:=al (ay row) (au kk c.c.nm bb)) (fs:=fs) hr.ah (hr.more U).1 (by rw[(hr.more U).2];exact hm) (hr.back U).2
  rw[lJ]at hb
  exact hb⟩) h)
  (λ{row} am h=>bC am (by decide) (λr hr=>⟨_,hr.aO,λkk bb fs=>by
  have hb:=IS (tb:=ag []) (ct:= .obj 12) (x:=al (ay row) (au kk c.c.nm bb)) (fs:=fs) hr.ah hr.eof
  rw[lJ]at hb
  exact hb⟩) h)
theorem N4{c:RD}{Q:FL×ES->Prop}(hn:pH c):sD c Q 479 486 451:=
 Ch .d hn
  (λ{n row ch} U hm h=>dq (λr hr=>⟨_,hr.aj U,λkk bb fs=>by
  have hb:=IU (tb:=ag []) (ct:= .obj 12) (x:=al (ay row) (au kk c.c.nm bb)) (fs:=fs) hr.ah (hr.more U).1 (by rw[(hr.more U).2];exact hm)
  rw[eL hr U,eA]at hb
  exact hb⟩) h)
  (λ{n row ch} U hm am h=>bC am (by decide) (λr hr=>⟨_,(hr.back U).1,λkk bb fs=>by
  have hb:=IV (tb:=ag []) (ct:= .obj 12) (x:=al (ay row) (au kk c.c.nm bb)) (fs:=fs) hr.ah (hr.more U).1 (by rw[(hr.more U).2];exact hm) (hr.back U).2
  rw[lJ]at hb
  exact hb⟩) h)
  (λ{row} am h=>bC am (by decide) (λr hr=>⟨_,hr.aO,λkk bb fs=>by
  have hb:=IW (tb:=ag []) (ct:= .obj 12) (x:=al (ay row) (au kk c.c.nm bb)) (fs:=fs) hr.ah hr.eof
  rw[lJ]at hb
  exact hb⟩) h)
section
variable{c:RD}{Q:FL×ES->Prop}{n ch:Nat}{row:List RI}
noncomputable def fW(q:Str->Bool)(c:RD)(n:Nat):Nat:=runN (pC q) ((cps c.T).drop n)
theorem uD{q:Str->Bool}{r:RS}(h:bm c n r):eS q r=ag (((cps c.T).drop n).take (fW q c n)):=h.eS
theorem y5{q:Str->Bool}{r:RS}(h:bm c n r):(fits 1&&fits (eS q r).length)=true:=by
 rw[uD h,iy (by rw[List.length_take,List.length_drop,bw];have:=h.small;omega)];rfl
theorem qJ{ls:List Nat}(h:∀x∈ls,x∈bL):decide (Txt.lower (ag ls)="script")=decide (ls.map aI=[115,99,114,105,112,116]):=by
 rw[rh (x:=ag ls) λch U=>u_ ch (h ch U)]
 have e:("script":Str)=ag [115,99,114,105,112,116]:=by kernel_rfl
 rw[e,Bool.eq_iff_iff,decide_eq_true_iff,decide_eq_true_iff]
 constructor
 ·intro h
  have:=congrArg (λs:Str=>s.cps.toList) h
  simpa[aX,cps,ag]using this
 ·intro h
  show(⟨(ls.map aI).toArray⟩:Str)=_
  rw[h];rfl
theorem JG{tb:Option Str}(U:(cps c.T)[n]?=some ch)(hm:ch∈[60])(h:Reach c Q 416 tb (n+1) row):Reach c Q 339 tb n row:=
 dq (λr hr=>⟨_,hr.aj U,λkk bb fs=>by
  have hb:=Ln (tb:=tb) (ct:= .obj 12) (x:=al (ay row) (au kk c.c.nm bb)) (fs:=fs) hr.ah (hr.more U).1 (by rw[(hr.more U).2];exact hm)
  exact hb⟩) h
theorem GN{tb:Option Str}(h:∀r,bm c c.T.length r->fV c.c Q r (ay row)):Reach c Q 339 tb c.T.length row:=
 D7 (λr hr=>⟨_,hr.aO,λkk bb fs=>by
  have hb:=IL (tb:=tb) (ct:= .obj 12) (x:=al (ay row) (au kk c.c.nm bb)) (fs:=fs) hr.ah hr.eof
  exact hb⟩) h
theorem GO{tb:Option Str}(U:(cps c.T)[n]?=some ch)(hm:ch∈[0])(am:aK 2000 row)(h:Reach c Q 339 tb (n+1) (aJ (row++[hB]) [65533])):Reach c Q 339 tb n row:=
 mo am (λr hr=>⟨_,hr.aj U,λkk bb fs=>by
  have hb:=IM (tb:=tb) (ct:= .obj 12) (x:=al (ay row) (au kk c.c.nm bb)) (fs:=fs) hr.ah (hr.more U).1 (by rw[(hr.more U).2];exact hm)
  rw[kG]at hb
  exact hb⟩) h
theorem GP{tb:Option Str}(hT:c.T.length<=2000)(U:(cps c.T)[n]?=some ch)(hm:ch∈(bJ [0,60]))(am:aK 2000 row)(h:Reach c Q 339 tb (n+1+fW qB c (n+1)) (aJ row (ch::((cps c.T).drop (n+1)).take (fW qB c (n+1))))):Reach c Q 339 tb n row:=
 bC (p:=(ch::((cps c.T).drop (n+1)).take (fW qB c (n+1)))) am (by rw[List.length_cons,List.length_take,List.length_drop,bw];omega) (λr hr=>⟨_,(hr.aj U).skip,λkk bb fs=>by
  have hb:=IN (tb:=tb) (ct:= .obj 12) (x:=al (ay row) (au kk c.c.nm bb)) (fs:=fs) hr.ah (hr.more U).1 (by rw[(hr.more U).2];exact hm) (hr.aj U).ah (y5 (hr.aj U))
  rw[eL hr U,eA,uD (hr.aj U),gm]at hb
  exact hb⟩) h
theorem JH{tb:Option Str}(U:(cps c.T)[n]?=some ch)(hm:ch∈[47])(h:Reach c Q 423 (some (ag [])) (n+1) row):Reach c Q 416 tb n row:=
 dq (λr hr=>⟨_,hr.aj U,λkk bb fs=>by
  have hb:=Lp (tb:=tb) (ct:= .obj 12) (x:=al (ay row) (au kk c.c.nm bb)) (fs:=fs) hr.ah (hr.more U).1 (by rw[(hr.more U).2];exact hm)
  rw[rD]at hb
  exact hb⟩) h
theorem JI{tb:Option Str}(U:(cps c.T)[n]?=some ch)(hm:ch∈[33])(am:aK 2000 row)(h:Reach c Q 437 tb (n+1) (aJ row [60,33])):Reach c Q 416 tb n row:=
 bC (p:=[60,33]) am (by decide) (λr hr=>⟨_,hr.aj U,λkk bb fs=>by
  have hb:=Lq (tb:=tb) (ct:= .obj 12) (x:=al (ay row) (au kk c.c.nm bb)) (fs:=fs) hr.ah (hr.more U).1 (by rw[(hr.more U).2];exact hm)
  rw[JE]at hb
  exact hb⟩) h
theorem GQ{tb:Option Str}(U:(cps c.T)[n]?=some ch)(hm:ch∈(bJ [33,47]))(am:aK 2000 row)(h:Reach c Q 339 tb n (aJ row [60])):Reach c Q 416 tb n row:=
 bC (p:=[60]) am (by decide) (λr hr=>⟨_,(hr.back U).1,λkk bb fs=>by
  have hb:=IO (tb:=tb) (ct:= .obj 12) (x:=al (ay row) (au kk c.c.nm bb)) (fs:=fs) hr.ah (hr.more U).1 (by rw[(hr.more U).2];exact hm) (hr.back U).2
  rw[kI]at hb
  exact hb⟩) h
theorem GR{tb:Option Str}(am:aK 2000 row)(h:Reach c Q 339 tb c.T.length (aJ row [60])):Reach c Q 416 tb c.T.length row:=
 bC (p:=[60]) am (by decide) (λr hr=>⟨_,hr.aO,λkk bb fs=>by
  have hb:=IP (tb:=tb) (ct:= .obj 12) (x:=al (ay row) (au kk c.c.nm bb)) (fs:=fs) hr.ah hr.eof
  rw[kI]at hb
  exact hb⟩) h
theorem JJ{tb:Option Str}(U:(cps c.T)[n]?=some ch)(hm:ch∈[45])(am:aK 2000 row)(h:Reach c Q 444 tb (n+1) (aJ row [45])):Reach c Q 437 tb n row:=
 bC (p:=[45]) am (by decide) (λr hr=>⟨_,hr.aj U,λkk bb fs=>by
  have hb:=LB (tb:=tb) (ct:= .obj 12) (x:=al (ay row) (au kk c.c.nm bb)) (fs:=fs) hr.ah (hr.more U).1 (by rw[(hr.more U).2];exact hm)
  rw[kK]at hb
  exact hb⟩) h
theorem GU{tb:Option Str}(U:(cps c.T)[n]?=some ch)(hm:ch∈(bJ [45]))(h:Reach c Q 339 tb n row):Reach c Q 437 tb n row:=
 dq (λr hr=>⟨_,(hr.back U).1,λkk bb fs=>by
  have hb:=IX (tb:=tb) (ct:= .obj 12) (x:=al (ay row) (au kk c.c.nm bb)) (fs:=fs) hr.ah (hr.more U).1 (by rw[(hr.more U).2];exact hm) (hr.back U).2
  exact hb⟩) h
theorem GV{tb:Option Str}(h:Reach c Q 339 tb c.T.length row):Reach c Q 437 tb c.T.length row:=
 dq (λr hr=>⟨_,hr.aO,λkk bb fs=>by
  have hb:=IY (tb:=tb) (ct:= .obj 12) (x:=al (ay row) (au kk c.c.nm bb)) (fs:=fs) hr.ah hr.eof
  exact hb⟩) h
theorem JK{tb:Option Str}(U:(cps c.T)[n]?=some ch)(hm:ch∈[45])(am:aK 2000 row)(h:Reach c Q 465 tb (n+1) (aJ row [45])):Reach c Q 444 tb n row:=
 bC (p:=[45]) am (by decide) (λr hr=>⟨_,hr.aj U,λkk bb fs=>by
  have hb:=LC (tb:=tb) (ct:= .obj 12) (x:=al (ay row) (au kk c.c.nm bb)) (fs:=fs) hr.ah (hr.more U).1 (by rw[(hr.more U).2];exact hm)
  rw[kK]at hb
  exact hb⟩) h
theorem GW{tb:Option Str}(U:(cps c.T)[n]?=some ch)(hm:ch∈(bJ [45]))(h:Reach c Q 339 tb n row):Reach c Q 444 tb n row:=
 dq (λr hr=>⟨_,(hr.back U).1,λkk bb fs=>by
  have hb:=IZ (tb:=tb) (ct:= .obj 12) (x:=al (ay row) (au kk c.c.nm bb)) (fs:=fs) hr.ah (hr.more U).1 (by rw[(hr.more U).2];exact hm) (hr.back U).2
  exact hb⟩) h
theorem GX{tb:Option Str}(h:Reach c Q 339 tb c.T.length row):Reach c Q 444 tb c.T.length row:=
 dq (λr hr=>⟨_,hr.aO,λkk bb fs=>by
  have hb:=I0 (tb:=tb) (ct:= .obj 12) (x:=al (ay row) (au kk c.c.nm bb)) (fs:=fs) hr.ah hr.eof
  exact hb⟩) h
theorem JL{tb:Option Str}(U:(cps c.T)[n]?=some ch)(hm:ch∈[45])(am:aK 2000 row)(h:Reach c Q 458 tb (n+1) (aJ row [45])):Reach c Q 451 tb n row:=
 bC (p:=[45]) am (by decide) (λr hr=>⟨_,hr.aj U,λkk bb fs=>by
  have hb:=LD (tb:=tb) (ct:= .obj 12) (x:=al (ay row) (au kk c.c.nm bb)) (fs:=fs) hr.ah (hr.more U).1 (by rw[(hr.more U).2];exact hm)
  rw[kK]at hb
  exact hb⟩) h
theorem JM{tb:Option Str}(U:(cps c.T)[n]?=some ch)(hm:ch∈[60])(h:Reach c Q 472 tb (n+1) row):Reach c Q 451 tb n row:=
 dq (λr hr=>⟨_,hr.aj U,λkk bb fs=>by
  have hb:=LE (tb:=tb) (ct:= .obj 12) (x:=al (ay row) (au kk c.c.nm bb)) (fs:=fs) hr.ah (hr.more U).1 (by rw[(hr.more U).2];exact hm)
  exact hb⟩) h
theorem GY{tb:Option Str}(U:(cps c.T)[n]?=some ch)(hm:ch∈[0])(am:aK 2000 row)(h:Reach c Q 451 tb (n+1) (aJ (row++[hB]) [65533])):Reach c Q 451 tb n row:=
 mo am (λr hr=>⟨_,hr.aj U,λkk bb fs=>by
  have hb:=I1 (tb:=tb) (ct:= .obj 12) (x:=al (ay row) (au kk c.c.nm bb)) (fs:=fs) hr.ah (hr.more U).1 (by rw[(hr.more U).2];exact hm)
  rw[kG]at hb
  exact hb⟩) h
theorem GZ{tb:Option Str}(h:Reach c Q 304 tb c.T.length row):Reach c Q 451 tb c.T.length row:=
 dq (λr hr=>⟨_,hr.aO,λkk bb fs=>by
  have hb:=I2 (tb:=tb) (ct:= .obj 12) (x:=al (ay row) (au kk c.c.nm bb)) (fs:=fs) hr.ah hr.eof
  exact hb⟩) h
theorem G0{tb:Option Str}(hT:c.T.length<=2000)(U:(cps c.T)[n]?=some ch)(hm:ch∈(bJ [0,45,60]))(am:aK 2000 row)(h:Reach c Q 451 tb (n+1+fW qC c (n+1)) (aJ row (ch::((cps c.T).drop (n+1)).take (fW qC c (n+1))))):Reach c Q 451 tb n row:=
 bC (p:=(ch::((cps c.T).drop (n+1)).take (fW qC c (n+1)))) am (by rw[List.length_cons,List.length_take,List.length_drop,bw];omega) (λr hr=>⟨_,(hr.aj U).skip,λkk bb fs=>by
  have hb:=I4 (tb:=tb) (ct:= .obj 12) (x:=al (ay row) (au kk c.c.nm bb)) (fs:=fs) hr.ah (hr.more U).1 (by rw[(hr.more U).2];exact hm) (hr.aj U).ah (y5 (hr.aj U))
  rw[eL hr U,eA,uD (hr.aj U),gm]at hb
  exact hb⟩) h
theorem JN{tb:Option Str}(U:(cps c.T)[n]?=some ch)(hm:ch∈[45])(am:aK 2000 row)(h:Reach c Q 465 tb (n+1) (aJ row [45])):Reach c Q 458 tb n row:=
 bC (p:=[45]) am (by decide) (λr hr=>⟨_,hr.aj U,λkk bb fs=>by
  have hb:=LF (tb:=tb) (ct:= .obj 12) (x:=al (ay row) (au kk c.c.nm bb)) (fs:=fs) hr.ah (hr.more U).1 (by rw[(hr.more U).2];exact hm)
  rw[kK]at hb
  exact hb⟩) h
theorem JO{tb:Option Str}(U:(cps c.T)[n]?=some ch)(hm:ch∈[60])(h:Reach c Q 472 tb (n+1) row):Reach c Q 458 tb n row:=
 dq (λr hr=>⟨_,hr.aj U,λkk bb fs=>by
  have hb:=LG (tb:=tb) (ct:= .obj 12) (x:=al (ay row) (au kk c.c.nm bb)) (fs:=fs) hr.ah (hr.more U).1 (by rw[(hr.more U).2];exact hm)
  exact hb⟩) h
theorem G1{tb:Option Str}(U:(cps c.T)[n]?=some ch)(hm:ch∈[0])(am:aK 2000 row)(h:Reach c Q 451 tb (n+1) (aJ (row++[hB]) [65533])):Reach c Q 458 tb n row:=
 mo am (λr hr=>⟨_,hr.aj U,λkk bb fs=>by
  have hb:=I5 (tb:=tb) (ct:= .obj 12) (x:=al (ay row) (au kk c.c.nm bb)) (fs:=fs) hr.ah (hr.more U).1 (by rw[(hr.more U).2];exact hm)
  rw[kG]at hb
  exact hb⟩) h
theorem G2{tb:Option Str}(h:Reach c Q 304 tb c.T.length row):Reach c Q 458 tb c.T.length row:=
 dq (λr hr=>⟨_,hr.aO,λkk bb fs=>by
  have hb:=I6 (tb:=tb) (ct:= .obj 12) (x:=al (ay row) (au kk c.c.nm bb)) (fs:=fs) hr.ah hr.eof
  exact hb⟩) h
theorem G3{tb:Option Str}(U:(cps c.T)[n]?=some ch)(hm:ch∈(bJ [0,45,60]))(am:aK 2000 row)(h:Reach c Q 451 tb (n+1) (aJ row [ch])):Reach c Q 458 tb n row:=
 bC (p:=[ch]) am (by simp) (λr hr=>⟨_,hr.aj U,λkk bb fs=>by
  have hb:=I7 (tb:=tb) (ct:= .obj 12) (x:=al (ay row) (au kk c.c.nm bb)) (fs:=fs) hr.ah (hr.more U).1 (by rw[(hr.more U).2];exact hm)
  rw[eL hr U,eA]at hb
  exact hb⟩) h
theorem JP{tb:Option Str}(U:(cps c.T)[n]?=some ch)(hm:ch∈[45])(am:aK 2000 row)(h:Reach c Q 465 tb (n+1) (aJ row [45])):Reach c Q 465 tb n row:=
 bC (p:=[45]) am (by decide) (λr hr=>⟨_,hr.aj U,λkk bb fs=>by
  have hb:=LH (tb:=tb) (ct:= .obj 12) (x:=al (ay row) (au kk c.c.nm bb)) (fs:=fs) hr.ah (hr.more U).1 (by rw[(hr.more U).2];exact hm)
  rw[kK]at hb
  exact hb⟩) h
theorem JQ{tb:Option Str}(U:(cps c.T)[n]?=some ch)(hm:ch∈[60])(h:Reach c Q 472 tb (n+1) row):Reach c Q 465 tb n row:=
 dq (λr hr=>⟨_,hr.aj U,λkk bb fs=>by
  have hb:=LI (tb:=tb) (ct:= .obj 12) (x:=al (ay row) (au kk c.c.nm bb)) (fs:=fs) hr.ah (hr.more U).1 (by rw[(hr.more U).2];exact hm)
  exact hb⟩) h
theorem JR{tb:Option Str}(U:(cps c.T)[n]?=some ch)(hm:ch∈[62])(am:aK 2000 row)(h:Reach c Q 339 tb (n+1) (aJ row [62])):Reach c Q 465 tb n row:=
 bC (p:=[62]) am (by decide) (λr hr=>⟨_,hr.aj U,λkk bb fs=>by
  have hb:=LJ (tb:=tb) (ct:= .obj 12) (x:=al (ay row) (au kk c.c.nm bb)) (fs:=fs) hr.ah (hr.more U).1 (by rw[(hr.more U).2];exact hm)
  rw[Bu]at hb
  exact hb⟩) h
theorem G4{tb:Option Str}(U:(cps c.T)[n]?=some ch)(hm:ch∈[0])(am:aK 2000 row)(h:Reach c Q 451 tb (n+1) (aJ (row++[hB]) [65533])):Reach c Q 465 tb n row:=
 mo am (λr hr=>⟨_,hr.aj U,λkk bb fs=>by
  have hb:=I8 (tb:=tb) (ct:= .obj 12) (x:=al (ay row) (au kk c.c.nm bb)) (fs:=fs) hr.ah (hr.more U).1 (by rw[(hr.more U).2];exact hm)
  rw[kG]at hb
  exact hb⟩) h
theorem G5{tb:Option Str}(h:Reach c Q 304 tb c.T.length row):Reach c Q 465 tb c.T.length row:=
 dq (λr hr=>⟨_,hr.aO,λkk bb fs=>by
  have hb:=I9 (tb:=tb) (ct:= .obj 12) (x:=al (ay row) (au kk c.c.nm bb)) (fs:=fs) hr.ah hr.eof
  exact hb⟩) h
theorem G6{tb:Option Str}(U:(cps c.T)[n]?=some ch)(hm:ch∈(bJ [0,45,60,62]))(am:aK 2000 row)(h:Reach c Q 451 tb (n+1) (aJ row [ch])):Reach c Q 465 tb n row:=
 bC (p:=[ch]) am (by simp) (λr hr=>⟨_,hr.aj U,λkk bb fs=>by
  have hb:=I_ (tb:=tb) (ct:= .obj 12) (x:=al (ay row) (au kk c.c.nm bb)) (fs:=fs) hr.ah (hr.more U).1 (by rw[(hr.more U).2];exact hm)
  rw[eL hr U,eA]at hb
  exact hb⟩) h
theorem JS{tb:Option Str}(U:(cps c.T)[n]?=some ch)(hm:ch∈[47])(h:Reach c Q 479 (some (ag [])) (n+1) row):Reach c Q 472 tb n row:=
 dq (λr hr=>⟨_,hr.aj U,λkk bb fs=>by
  have hb:=LK (tb:=tb) (ct:= .obj 12) (x:=al (ay row) (au kk c.c.nm bb)) (fs:=fs) hr.ah (hr.more U).1 (by rw[(hr.more U).2];exact hm)
  rw[rD]at hb
  exact hb⟩) h
theorem G7{tb:Option Str}(U:(cps c.T)[n]?=some ch)(hm:ch∈bL)(am:aK 2000 row)(h:Reach c Q 493 (some (ag [ch])) (n+1) (aJ row [60,ch])):Reach c Q 472 tb n row:=
 bC (p:=[60,ch]) am (by simp) (λr hr=>⟨_,hr.aj U,λkk bb fs=>by
  have hb:=I' (tb:=tb) (ct:= .obj 12) (x:=al (ay row) (au kk c.c.nm bb)) (fs:=fs) hr.ah (hr.more U).1 (by rw[(hr.more U).2];exact hm)
  rw[eL hr U,eA,kI,gm]at hb
  exact hb⟩) h
theorem G8{tb:Option Str}(U:(cps c.T)[n]?=some ch)(hm:ch∈(bJ (bL++[47])))(am:aK 2000 row)(h:Reach c Q 451 tb n (aJ row [60])):Reach c Q 472 tb n row:=
 bC (p:=[60]) am (by decide) (λr hr=>⟨_,(hr.back U).1,λkk bb fs=>by
  have hb:=Ja (tb:=tb) (ct:= .obj 12) (x:=al (ay row) (au kk c.c.nm bb)) (fs:=fs) hr.ah (hr.more U).1 (by rw[(hr.more U).2];exact hm) (hr.back U).2
  rw[kI]at hb
  exact hb⟩) h
theorem G9{tb:Option Str}(am:aK 2000 row)(h:Reach c Q 451 tb c.T.length (aJ row [60])):Reach c Q 472 tb c.T.length row:=
 bC (p:=[60]) am (by decide) (λr hr=>⟨_,hr.aO,λkk bb fs=>by
  have hb:=Jb (tb:=tb) (ct:= .obj 12) (x:=al (ay row) (au kk c.c.nm bb)) (fs:=fs) hr.ah hr.eof
  rw[kI]at hb
  exact hb⟩) h
theorem G_{ls:List Nat}(hl:ls.length<=2000)(U:(cps c.T)[n]?=some ch)(hm:ch∈(cC++[47,62]))(hs:decide (Txt.lower (ag ls)="script")=true)(am:aK 2000 row)(h:Reach c Q 500 (some (ag ls)) (n+1) (aJ row [ch])):Reach c Q 493 (some (ag ls)) n row:=
 bC (p:=[ch]) am (by simp) (λr hr=>⟨_,hr.aj U,λkk bb fs=>by
  have hb:=Jc (tb:=ag ls) (ct:= .obj 12) (x:=al (ay row) (au kk c.c.nm bb)) (fs:=fs) hr.ah (hr.more U).1 (by rw[(hr.more U).2];exact hm) (jS (by rw[de];omega)) hs
  rw[eL hr U,eA]at hb
  exact hb⟩) h
theorem G'{ls:List Nat}(hl:ls.length<=2000)(U:(cps c.T)[n]?=some ch)(hm:ch∈(cC++[47,62]))(hs:decide (Txt.lower (ag ls)="script")=false)(am:aK 2000 row)(h:Reach c Q 451 (some (ag ls)) (n+1) (aJ row [ch])):Reach c Q 493 (some (ag ls)) n row:=
 bC (p:=[ch]) am (by simp) (λr hr=>⟨_,hr.aj U,λkk bb fs=>by
  have hb:=Jd (tb:=ag ls) (ct:= .obj 12) (x:=al (ay row) (au kk c.c.nm bb)) (fs:=fs) hr.ah (hr.more U).1 (by rw[(hr.more U).2];exact hm) (jS (by rw[de];omega)) hs
  rw[eL hr U,eA]at hb
  exact hb⟩) h
theorem Ha{ls:List Nat}(hl:ls.length<=2000)(U:(cps c.T)[n]?=some ch)(hm:ch∈bL)(am:aK 2000 row)(h:Reach c Q 493 (some (ag (ls++[ch]))) (n+1) (aJ row [ch])):Reach c Q 493 (some (ag ls)) n row:=
 bC (p:=[ch]) am (by simp) (λr hr=>⟨_,hr.aj U,λkk bb fs=>by
  have hb:=Je (tb:=ag ls) (ct:= .obj 12) (x:=al (ay row) (au kk c.c.nm bb)) (fs:=fs) hr.ah (hr.more U).1 (by rw[(hr.more U).2];exact hm) (by rw[iy (by omega)];rfl)
  rw[eL hr U,eA,gm]at hb
  exact hb⟩) h
theorem Hb{ls:List Nat}(hl:ls.length<=2000)(U:(cps c.T)[n]?=some ch)(hm:ch∈(bJ (bL++cC++[47,62])))(h:Reach c Q 451 (some (ag ls)) n row):Reach c Q 493 (some (ag ls)) n row:=
 dq (λr hr=>⟨_,(hr.back U).1,λkk bb fs=>by
  have hb:=Jf (tb:=ag ls) (ct:= .obj 12) (x:=al (ay row) (au kk c.c.nm bb)) (fs:=fs) hr.ah (hr.more U).1 (by rw[(hr.more U).2];exact hm) (hr.back U).2
  exact hb⟩) h
theorem Hc{ls:List Nat}(hl:ls.length<=2000)(h:Reach c Q 451 (some (ag ls)) c.T.length row):Reach c Q 493 (some (ag ls)) c.T.length row:=
 dq (λr hr=>⟨_,hr.aO,λkk bb fs=>by
  have hb:=Jg (tb:=ag ls) (ct:= .obj 12) (x:=al (ay row) (au kk c.c.nm bb)) (fs:=fs) hr.ah hr.eof
  exact hb⟩) h
theorem Hd{ls:List Nat}(hl:ls.length<=2000)(U:(cps c.T)[n]?=some ch)(hm:ch∈(cC++[47,62]))(hs:decide (Txt.lower (ag ls)="script")=true)(am:aK 2000 row)(h:Reach c Q 451 (some (ag ls)) (n+1) (aJ row [ch])):Reach c Q 528 (some (ag ls)) n row:=
 bC (p:=[ch]) am (by simp) (λr hr=>⟨_,hr.aj U,λkk bb fs=>by
  have hb:=Jh (tb:=ag ls) (ct:= .obj 12) (x:=al (ay row) (au kk c.c.nm bb)) (fs:=fs) hr.ah (hr.more U).1 (by rw[(hr.more U).2];exact hm) (jS (by rw[de];omega)) hs
  rw[eL hr U,eA]at hb
  exact hb⟩) h
theorem He{ls:List Nat}(hl:ls.length<=2000)(U:(cps c.T)[n]?=some ch)(hm:ch∈(cC++[47,62]))(hs:decide (Txt.lower (ag ls)="script")=false)(am:aK 2000 row)(h:Reach c Q 500 (some (ag ls)) (n+1) (aJ row [ch])):Reach c Q 528 (some (ag ls)) n row:=
 bC (p:=[ch]) am (by simp) (λr hr=>⟨_,hr.aj U,λkk bb fs=>by
  have hb:=Ji (tb:=ag ls) (ct:= .obj 12) (x:=al (ay row) (au kk c.c.nm bb)) (fs:=fs) hr.ah (hr.more U).1 (by rw[(hr.more U).2];exact hm) (jS (by rw[de];omega)) hs
  rw[eL hr U,eA]at hb
  exact hb⟩) h
theorem Hf{ls:List Nat}(hl:ls.length<=2000)(U:(cps c.T)[n]?=some ch)(hm:ch∈bL)(am:aK 2000 row)(h:Reach c Q 528 (some (ag (ls++[ch]))) (n+1) (aJ row [ch])):Reach c Q 528 (some (ag ls)) n row:=
 bC (p:=[ch]) am (by simp) (λr hr=>⟨_,hr.aj U,λkk bb fs=>by
  have hb:=Jj (tb:=ag ls) (ct:= .obj 12) (x:=al (ay row) (au kk c.c.nm bb)) (fs:=fs) hr.ah (hr.more U).1 (by rw[(hr.more U).2];exact hm) (by rw[iy (by omega)];rfl)
  rw[eL hr U,eA,gm]at hb
  exact hb⟩) h
theorem Hh{ls:List Nat}(hl:ls.length<=2000)(U:(cps c.T)[n]?=some ch)(hm:ch∈(bJ (bL++cC++[47,62])))(h:Reach c Q 500 (some (ag ls)) n row):Reach c Q 528 (some (ag ls)) n row:=
 dq (λr hr=>⟨_,(hr.back U).1,λkk bb fs=>by
  have hb:=Jk (tb:=ag ls) (ct:= .obj 12) (x:=al (ay row) (au kk c.c.nm bb)) (fs:=fs) hr.ah (hr.more U).1 (by rw[(hr.more U).2];exact hm) (hr.back U).2
  exact hb⟩) h
theorem Hi{ls:List Nat}(hl:ls.length<=2000)(h:Reach c Q 500 (some (ag ls)) c.T.length row):Reach c Q 528 (some (ag ls)) c.T.length row:=
 dq (λr hr=>⟨_,hr.aO,λkk bb fs=>by
  have hb:=Jl (tb:=ag ls) (ct:= .obj 12) (x:=al (ay row) (au kk c.c.nm bb)) (fs:=fs) hr.ah hr.eof
  exact hb⟩) h
theorem JT{tb:Option Str}(U:(cps c.T)[n]?=some ch)(hm:ch∈[45])(am:aK 2000 row)(h:Reach c Q 507 tb (n+1) (aJ row [45])):Reach c Q 500 tb n row:=
 bC (p:=[45]) am (by decide) (λr hr=>⟨_,hr.aj U,λkk bb fs=>by
  have hb:=LL (tb:=tb) (ct:= .obj 12) (x:=al (ay row) (au kk c.c.nm bb)) (fs:=fs) hr.ah (hr.more U).1 (by rw[(hr.more U).2];exact hm)
  rw[kK]at hb
  exact hb⟩) h
theorem JU{tb:Option Str}(U:(cps c.T)[n]?=some ch)(hm:ch∈[60])(am:aK 2000 row)(h:Reach c Q 521 tb (n+1) (aJ row [60])):Reach c Q 500 tb n row:=
 bC (p:=[60]) am (by decide) (λr hr=>⟨_,hr.aj U,λkk bb fs=>by
  have hb:=LM (tb:=tb) (ct:= .obj 12) (x:=al (ay row) (au kk c.c.nm bb)) (fs:=fs) hr.ah (hr.more U).1 (by rw[(hr.more U).2];exact hm)
  rw[kI]at hb
  exact hb⟩) h
theorem Hj{tb:Option Str}(U:(cps c.T)[n]?=some ch)(hm:ch∈[0])(am:aK 2000 row)(h:Reach c Q 500 tb (n+1) (aJ (row++[hB]) [65533])):Reach c Q 500 tb n row:=
 mo am (λr hr=>⟨_,hr.aj U,λkk bb fs=>by
  have hb:=Jm (tb:=tb) (ct:= .obj 12) (x:=al (ay row) (au kk c.c.nm bb)) (fs:=fs) hr.ah (hr.more U).1 (by rw[(hr.more U).2];exact hm)
  rw[kG]at hb
  exact hb⟩) h
theorem Hk{tb:Option Str}(am:aK 2000 row)(h:Reach c Q 304 tb c.T.length (row++[.err 1])):Reach c Q 500 tb c.T.length row:=
 xP (e:=1) am (λr hr=>⟨_,hr.aO,λkk bb fs=>by
  have hb:=Jn (tb:=tb) (ct:= .obj 12) (x:=al (ay row) (au kk c.c.nm bb)) (fs:=fs) hr.ah hr.eof
  exact hb⟩) h
theorem Hl{tb:Option Str}(U:(cps c.T)[n]?=some ch)(hm:ch∈(bJ [0,45,60]))(am:aK 2000 row)(h:Reach c Q 500 tb (n+1) (aJ row [ch])):Reach c Q 500 tb n row:=
 bC (p:=[ch]) am (by simp) (λr hr=>⟨_,hr.aj U,λkk bb fs=>by
  have hb:=Jo (tb:=tb) (ct:= .obj 12) (x:=al (ay row) (au kk c.c.nm bb)) (fs:=fs) hr.ah (hr.more U).1 (by rw[(hr.more U).2];exact hm)
  rw[eL hr U,eA]at hb
  exact hb⟩) h
theorem JV{tb:Option Str}(U:(cps c.T)[n]?=some ch)(hm:ch∈[45])(am:aK 2000 row)(h:Reach c Q 514 tb (n+1) (aJ row [45])):Reach c Q 507 tb n row:=
 bC (p:=[45]) am (by decide) (λr hr=>⟨_,hr.aj U,λkk bb fs=>by
  have hb:=LN (tb:=tb) (ct:= .obj 12) (x:=al (ay row) (au kk c.c.nm bb)) (fs:=fs) hr.ah (hr.more U).1 (by rw[(hr.more U).2];exact hm)
  rw[kK]at hb
  exact hb⟩) h
theorem JW{tb:Option Str}(U:(cps c.T)[n]?=some ch)(hm:ch∈[60])(am:aK 2000 row)(h:Reach c Q 521 tb (n+1) (aJ row [60])):Reach c Q 507 tb n row:=
 bC (p:=[60]) am (by decide) (λr hr=>⟨_,hr.aj U,λkk bb fs=>by
  have hb:=LO (tb:=tb) (ct:= .obj 12) (x:=al (ay row) (au kk c.c.nm bb)) (fs:=fs) hr.ah (hr.more U).1 (by rw[(hr.more U).2];exact hm)
  rw[kI]at hb
  exact hb⟩) h
theorem Hm{tb:Option Str}(U:(cps c.T)[n]?=some ch)(hm:ch∈[0])(am:aK 2000 row)(h:Reach c Q 500 tb (n+1) (aJ (row++[hB]) [65533])):Reach c Q 507 tb n row:=
 mo am (λr hr=>⟨_,hr.aj U,λkk bb fs=>by
  have hb:=Jp (tb:=tb) (ct:= .obj 12) (x:=al (ay row) (au kk c.c.nm bb)) (fs:=fs) hr.ah (hr.more U).1 (by rw[(hr.more U).2];exact hm)
  rw[kG]at hb
  exact hb⟩) h
theorem Hn{tb:Option Str}(am:aK 2000 row)(h:Reach c Q 304 tb c.T.length (row++[.err 1])):Reach c Q 507 tb c.T.length row:=
 xP (e:=1) am (λr hr=>⟨_,hr.aO,λkk bb fs=>by
  have hb:=Jq (tb:=tb) (ct:= .obj 12) (x:=al (ay row) (au kk c.c.nm bb)) (fs:=fs) hr.ah hr.eof
  exact hb⟩) h
theorem Ho{tb:Option Str}(U:(cps c.T)[n]?=some ch)(hm:ch∈(bJ [0,45,60]))(am:aK 2000 row)(h:Reach c Q 500 tb (n+1) (aJ row [ch])):Reach c Q 507 tb n row:=
 bC (p:=[ch]) am (by simp) (λr hr=>⟨_,hr.aj U,λkk bb fs=>by
  have hb:=Jr (tb:=tb) (ct:= .obj 12) (x:=al (ay row) (au kk c.c.nm bb)) (fs:=fs) hr.ah (hr.more U).1 (by rw[(hr.more U).2];exact hm)
  rw[eL hr U,eA]at hb
  exact hb⟩) h
theorem JX{tb:Option Str}(U:(cps c.T)[n]?=some ch)(hm:ch∈[45])(am:aK 2000 row)(h:Reach c Q 514 tb (n+1) (aJ row [45])):Reach c Q 514 tb n row:=
 bC (p:=[45]) am (by decide) (λr hr=>⟨_,hr.aj U,λkk bb fs=>by
  have hb:=LP (tb:=tb) (ct:= .obj 12) (x:=al (ay row) (au kk c.c.nm bb)) (fs:=fs) hr.ah (hr.more U).1 (by rw[(hr.more U).2];exact hm)
  rw[kK]at hb
  exact hb⟩) h
theorem JY{tb:Option Str}(U:(cps c.T)[n]?=some ch)(hm:ch∈[60])(am:aK 2000 row)(h:Reach c Q 521 tb (n+1) (aJ row [60])):Reach c Q 514 tb n row:=
 bC (p:=[60]) am (by decide) (λr hr=>⟨_,hr.aj U,λkk bb fs=>by
  have hb:=LQ (tb:=tb) (ct:= .obj 12) (x:=al (ay row) (au kk c.c.nm bb)) (fs:=fs) hr.ah (hr.more U).1 (by rw[(hr.more U).2];exact hm)
  rw[kI]at hb
  exact hb⟩) h
theorem JZ{tb:Option Str}(U:(cps c.T)[n]?=some ch)(hm:ch∈[62])(am:aK 2000 row)(h:Reach c Q 339 tb (n+1) (aJ row [62])):Reach c Q 514 tb n row:=
 bC (p:=[62]) am (by decide) (λr hr=>⟨_,hr.aj U,λkk bb fs=>by
  have hb:=LR (tb:=tb) (ct:= .obj 12) (x:=al (ay row) (au kk c.c.nm bb)) (fs:=fs) hr.ah (hr.more U).1 (by rw[(hr.more U).2];exact hm)
  rw[Bu]at hb
  exact hb⟩) h
theorem Hp{tb:Option Str}(U:(cps c.T)[n]?=some ch)(hm:ch∈[0])(am:aK 2000 row)(h:Reach c Q 500 tb (n+1) (aJ (row++[hB]) [65533])):Reach c Q 514 tb n row:=
 mo am (λr hr=>⟨_,hr.aj U,λkk bb fs=>by
  have hb:=Js (tb:=tb) (ct:= .obj 12) (x:=al (ay row) (au kk c.c.nm bb)) (fs:=fs) hr.ah (hr.more U).1 (by rw[(hr.more U).2];exact hm)
  rw[kG]at hb
  exact hb⟩) h
theorem Hq{tb:Option Str}(am:aK 2000 row)(h:Reach c Q 304 tb c.T.length (row++[.err 1])):Reach c Q 514 tb c.T.length row:=
 xP (e:=1) am (λr hr=>⟨_,hr.aO,λkk bb fs=>by
  have hb:=Jt (tb:=tb) (ct:= .obj 12) (x:=al (ay row) (au kk c.c.nm bb)) (fs:=fs) hr.ah hr.eof
  exact hb⟩) h
theorem Hr{tb:Option Str}(U:(cps c.T)[n]?=some ch)(hm:ch∈(bJ [0,45,60,62]))(am:aK 2000 row)(h:Reach c Q 500 tb (n+1) (aJ row [ch])):Reach c Q 514 tb n row:=
 bC (p:=[ch]) am (by simp) (λr hr=>⟨_,hr.aj U,λkk bb fs=>by
  have hb:=Ju (tb:=tb) (ct:= .obj 12) (x:=al (ay row) (au kk c.c.nm bb)) (fs:=fs) hr.ah (hr.more U).1 (by rw[(hr.more U).2];exact hm)
  rw[eL hr U,eA]at hb
  exact hb⟩) h
theorem J0{tb:Option Str}(U:(cps c.T)[n]?=some ch)(hm:ch∈[47])(am:aK 2000 row)(h:Reach c Q 528 (some (ag [])) (n+1) (aJ row [47])):Reach c Q 521 tb n row:=
 bC (p:=[47]) am (by decide) (λr hr=>⟨_,hr.aj U,λkk bb fs=>by
  have hb:=LS (tb:=tb) (ct:= .obj 12) (x:=al (ay row) (au kk c.c.nm bb)) (fs:=fs) hr.ah (hr.more U).1 (by rw[(hr.more U).2];exact hm)
  rw[rD,N2]at hb
  exact hb⟩) h
theorem Hs{tb:Option Str}(U:(cps c.T)[n]?=some ch)(hm:ch∈(bJ [47]))(h:Reach c Q 500 tb n row):Reach c Q 521 tb n row:=
 dq (λr hr=>⟨_,(hr.back U).1,λkk bb fs=>by
  have hb:=Jv (tb:=tb) (ct:= .obj 12) (x:=al (ay row) (au kk c.c.nm bb)) (fs:=fs) hr.ah (hr.more U).1 (by rw[(hr.more U).2];exact hm) (hr.back U).2
  exact hb⟩) h
theorem Ht{tb:Option Str}(h:Reach c Q 500 tb c.T.length row):Reach c Q 521 tb c.T.length row:=
 dq (λr hr=>⟨_,hr.aO,λkk bb fs=>by
  have hb:=Jw (tb:=tb) (ct:= .obj 12) (x:=al (ay row) (au kk c.c.nm bb)) (fs:=fs) hr.ah hr.eof
  exact hb⟩) h
theorem zJ{tb:Option Str}(h:∀r,bm c c.T.length r->fV c.c Q r (ay row)):Reach c Q 304 tb c.T.length row:=
 D7 (λr hr=>⟨_,hr.aO,λkk bb fs=>by
  have hb:=Am (tb:=tb) (ct:= .obj 12) (x:=al (ay row) (au kk c.c.nm bb)) (fs:=fs) hr.ah hr.eof
  exact hb⟩) h
end
theorem eR{ch:Nat}{l:List Nat}(V:ch∈cH)(h2:ch∉l):ch∈bJ l:=by
 unfold bJ
 refine List.mem_filter.mpr ⟨V, ?_⟩
 rw[Bool.not_eq_true',List.any_eq_false]
 intro x hx q
 exact h2 (by rw[Nat.eq_of_beq_eq_true q];exact hx)
noncomputable def Sg(L:List Nat):Prop:=∀ch∈L,ch∈cH/\ch≠38/\ch≠12
noncomputable def isLet(c:Nat):Bool:=(Nat.ble 65 c&&Nat.ble c 90)||(Nat.ble 97 c&&Nat.ble c 122)
theorem fj{ch:Nat}:ch∈bL<->isLet ch=true:=by
 unfold bL isLet
 simp only[List.mem_append,List.mem_map,List.mem_range,Bool.or_eq_true,Bool.and_eq_true,Nat.ble_eq]
 constructor
 ·rintro(⟨a,h,rfl⟩|⟨a,h,rfl⟩)
  ·left;lia
  ·right;lia
 ·rintro(h|h)
  ·left;exact⟨ch-65,by lia,by lia⟩
  ·right;exact⟨ch-97,by lia,by lia⟩
theorem vb{ch:Nat}:isLet ch=true<->97<=aI ch/\aI ch<=122:=by
 unfold isLet aI
 rw[Bool.or_eq_true,Bool.and_eq_true,Bool.and_eq_true]
 cases h:(Nat.ble 65 ch&&Nat.ble ch 90)with
 |true=>
  rw[Bool.and_eq_true]at h
  have V:=Nat.le_of_ble_eq_true h.1
  have h2:=Nat.le_of_ble_eq_true h.2
  simp only[cond_true,Nat.ble_eq]
  constructor
  ·intro _;lia
  ·intro _;left;lia
 |false=>
  have:¬(65<=ch/\ch<=90):=λq=>by
   rw[Nat.ble_eq_true_of_le q.1,Nat.ble_eq_true_of_le q.2]at h;cases h
  simp only[cond_false,Nat.ble_eq]
  constructor
  ·rintro(q|q)
   ·exact absurd q this
   ·exact q
  ·intro q;right;exact q
noncomputable def cU(c:Nat):Bool:=Nat.beq c 32||(Nat.beq c 9||(Nat.beq c 10||(Nat.beq c 47||Nat.beq c 62)))
theorem kD{ch:Nat}:cU ch=true<->ch=32\/ch=9\/ch=10\/ch=47\/ch=62:=by
 unfold cU
 simp only[Bool.or_eq_true,Nat.beq_eq]
theorem uE{ch:Nat}(h:cU ch=true):ch∈cC++[47,62]:=by
 rcases kD.mp h with rfl|rfl|rfl|rfl|rfl<;>decide
theorem mI{ch:Nat}(h:ch∈cC++[47,62])(h2:ch≠12):cU ch=true:=by
 have:ch=9\/ch=10\/ch=12\/ch=32\/ch=47\/ch=62:=by
  simpa[cC]using h
 exact kD.mpr (by lia)
theorem qy{ch:Nat}(h:cU ch=true):isLet ch=false:=by
 rcases kD.mp h with rfl|rfl|rfl|rfl|rfl<;>decide
noncomputable def cP(head:List Nat)(w:List Nat):Bool:=decide ((w.take head.length).map aI=head)&&(match w[head.length]?with|some ch=>cU ch|none=>false)
theorem jb{h0:Nat}{head w:List Nat}{c:Nat}(h:aI c≠h0):cP (h0::head) (c::w)=false:=by
 unfold cP
 rw[decide_eq_false]
 ·rfl
 ·intro q
  rw[List.length_cons,List.take_succ_cons,List.map_cons]at q
  injection q with U q2
  exact h U
theorem ou{h0:Nat}{head:List Nat}:cP (h0::head) []=false:=by
 unfold cP
 rw[decide_eq_false]
 ·rfl
 ·intro q;cases q
theorem jc{h0:Nat}{head w:List Nat}{c:Nat}(h:aI c=h0):cP (h0::head) (c::w)=cP head w:=by
 unfold cP
 rw[List.length_cons,List.take_succ_cons,List.map_cons,List.getElem?_cons_succ,h]
 congr 1
 rw[Bool.eq_iff_iff,decide_eq_true_iff,decide_eq_true_iff]
 constructor
 ·intro q;injection q
 ·intro q;rw[q]
theorem qK{head:List Nat}(U:∀x∈head,97<=x/\x<=122):∀{ls w:List Nat},(∀x∈ls,isLet x=true)->(∀ch w',w=ch::w'->isLet ch=false)->(cP head (ls++w)=true<->ls.map aI=head/\∃ch w',w=ch::w'/\cU ch=true):=by
 induction head with
 |nil=>
  intro ls w V h2
  cases ls with
  |nil=>
   unfold cP
   cases w with
   |nil=>simp
   |cons ch w=>simp
  |cons a ls=>
   have ha:=V a (.head _)
   unfold cP
   simp only[List.length_nil,List.take_zero,List.map_nil,decide_true,Bool.true_and,List.cons_append,List.getElem?_cons_zero,List.map_cons,reduceCtorEq,false_and,iff_false]
   intro q
   rw[qy q]at ha;cases ha
 |cons h0 head ih=>
  intro ls w V h2
  have X:=U h0 (.head _)
  cases ls with
  |nil=>
   simp only[List.nil_append,List.map_nil,reduceCtorEq,false_and,iff_false]
   cases w with
   |nil=>rw[ou];simp
   |cons ch w=>
    have W:=h2 ch w rfl
    rw[jb]
    ·simp
    ·intro q
     have:=vb.mpr (show 97<=aI ch/\aI ch<=122 by lia)
     rw[this]at W;cases W
  |cons a ls=>
   rw[List.cons_append]
   by_cases q:aI a=h0
   ·rw[jc q,ih (λx hx=>U x (.tail _ hx)) (λx hx=>V x (.tail _ hx)) h2,List.map_cons]
    constructor
    ·rintro⟨e1,e2⟩;exact⟨by rw[q,e1],e2⟩
    ·rintro⟨e1,e2⟩;injection e1 with _ e1;exact⟨e1,e2⟩
   ·rw[jb q,List.map_cons]
    constructor
    ·intro x;cases x
    ·rintro⟨e1,e2⟩;injection e1 with e1 _;exact absurd e1 q
noncomputable def lw(c:RD):Option (List Nat):=match c.nm with
 |none=>none
 |some nm=>cond (!(cps nm).isEmpty&&((cps nm).map aI).all λx=>Nat.ble 97 x&&Nat.ble x 122) (some ((cps nm).map aI)) none
noncomputable def cq(c:RD)(w:List Nat):Bool:=match lw c with
 |none=>false
 |some nl=>cP (60::47::nl) w
theorem N5{c:RD}{nl:List Nat}(h:lw c=some nl):nl≠[]/\(∀x∈nl,97<=x/\x<=122)/\∃nm,c.nm=some nm/\(cps nm).map aI=nl:=by
 unfold lw at h
 cases q:c.nm with
 |none=>rw[q]at h;cases h
 |some nm=>
  rw[q]at h
  dsimp only at h
  cases q2:(!(cps nm).isEmpty&&((cps nm).map aI).all λx=>Nat.ble 97 x&&Nat.ble x 122)with
  |false=>rw[q2]at h;cases h
  |true=>
   rw[q2]at h;cases h
   rw[Bool.and_eq_true]at q2
   refine⟨λe=> ?_,λx hx=> ?_,nm,rfl,rfl⟩
   ·rw[List.map_eq_nil_iff.mp e]at q2;exact absurd q2.1 (by decide)
   ·have:=List.all_eq_true.mp q2.2 x hx
    rw[Bool.and_eq_true]at this
    exact⟨Nat.le_of_ble_eq_true this.1,Nat.le_of_ble_eq_true this.2⟩
theorem lL{c:RD}{ls w:List Nat}(V:∀x∈ls,isLet x=true)(h2:∀ch w',w=ch::w'->isLet ch=false):cq c (60::47::(ls++w))=true<->ls≠[]/\Mt c ls/\∃ch w',w=ch::w'/\cU ch=true:=by
 unfold cq
 cases q:lw c with
 |none=>
  simp only[Bool.false_eq_true,false_iff]
  rintro⟨h3,⟨nm,h4,h5⟩,Z⟩
  unfold lw at q
  rw[h4]at q
  dsimp only at q
  have:(!(cps nm).isEmpty&&((cps nm).map aI).all λx=>Nat.ble 97 x&&Nat.ble x 122)=true:=by
   rw[Bool.and_eq_true]
   constructor
   ·cases e:cps nm with
    |nil=>rw[e]at h5;exact absurd (List.map_eq_nil_iff.mp h5.symm) h3
    |cons=>rfl
   ·rw[h5,List.all_eq_true]
    intro x hx
    obtain⟨y,hy,rfl⟩:=List.mem_map.mp hx
    have:=vb.mp (V y hy)
    rw[Nat.ble_eq_true_of_le this.1,Nat.ble_eq_true_of_le this.2];rfl
  rw[this]at q;cases q
 |some nl=>
  obtain⟨n1,X,nm,U,W⟩:=N5 q
  dsimp only
  rw[jc (by decide),jc (by decide),qK X V h2]
  constructor
  ·rintro⟨e1,e2⟩
   exact⟨λe=>n1 (by rw[<-e1,e];rfl),⟨nm,U,by rw[W,e1]⟩,e2⟩
  ·rintro⟨e1,⟨J,e2,e3⟩,Y⟩
   rw[U]at e2;cases e2
   exact⟨by rw[<-e3,W],Y⟩
theorem oG{c:RD}{ch:Nat}{w:List Nat}(h:ch≠60)(h2:isLet ch=false\/True):cq c (ch::w)=false:=by
 unfold cq
 cases lw c with
 |none=>rfl
 |some nl=>
  refine jb λq=>h ?_
  unfold aI at q
  cases e:(Nat.ble 65 ch&&Nat.ble ch 90)with
  |true=>
   rw[e]at q
   rw[Bool.and_eq_true]at e
   have:=Nat.le_of_ble_eq_true e.1
   simp only[cond_true]at q
   lia
  |false=>rw[e]at q;exact q
theorem lE{c:RD}{w:List Nat}(h:∀w',w≠47::w'):cq c (60::w)=false:=by
 unfold cq
 cases lw c with
 |none=>rfl
 |some nl=>
  dsimp only
  rw[jc (by decide)]
  cases w with
  |nil=>exact ou
  |cons a w=>
   refine jb λq=> ?_
   unfold aI at q
   cases e:(Nat.ble 65 a&&Nat.ble a 90)with
   |true=>
    rw[e]at q
    rw[Bool.and_eq_true]at e
    have:=Nat.le_of_ble_eq_true e.1
    simp only[cond_true]at q
    lia
   |false=>rw[e]at q;exact h w (by rw[show a=47 from q])
theorem mJ:∀w:List Nat,∃ls w',w=ls++w'/\(∀x∈ls,isLet x=true)/\∀ch U,w'=ch::U->isLet ch=false
 |[]=>⟨[],[],rfl,(λx h=>by cases h),(λch U h=>by cases h)⟩
 |a::w=>by
  cases ha:isLet a with
  |false=>exact⟨[],a::w,rfl,(λx h=>by cases h),(λch U h=>by cases h;exact ha)⟩
  |true=>
   obtain⟨ls,w',e,V,h2⟩:=mJ w
   refine⟨a::ls,w',by rw[e];rfl,λx hx=> ?_,h2⟩
   rcases List.mem_cons.mp hx with rfl|hx
   ·exact ha
   ·exact V x hx
theorem bx{L p1 p2:List Nat}{x n:Nat}(h:L=p1++x::p2)(hn:n=p1.length):L[n]?=some x:=by
 subst hn;rw[h];simp
theorem Bv{L p1:List Nat}{n:Nat}(h:L=p1)(hn:n=p1.length):n=L.length:=by rw[h];exact hn
theorem jh{x:Nat}(h:isLet x=true):x≠0/\x≠60/\x≠45:=by
 refine⟨λe=> ?_,λe=> ?_,λe=> ?_⟩<;>(subst e;revert h;decide)
structure dK(c:RD):Prop where
 sg:Sg (cps c.T)
 r0:aK c.b0 c.R0
 len0:c.c.T.length<=2000
 nm:pH c
section
variable{c:RD}{Q:FL×ES->Prop}{pre ls w w':List Nat}{eo en b:Nat}
theorem dK.len(h:dK c):(cps c.T).length<=2000:=by
 have:=mH (c:=c);have:=h.len0
 rw[bw];lia
theorem dK.row(h:dK c)(hL:cps c.T=pre++w):aK 2000 (rowOf c pre):=by
 have e:=mH (c:=c)
 have:=h.len0
 rw[<-bw (x:=c.T),hL,List.length_append]at e
 exact(zE h.r0 pre).mono (by lia)
theorem oy{p:List Nat}(h:0∉p):aJ (rowOf c pre) p=rowOf c (pre++p):=by rw[zF,zB h]
theorem dK.mem(h:dK c){p1 p2:List Nat}{x:Nat}(hL:cps c.T=p1++x::p2):x∈cH/\x≠38/\x≠12:=h.sg x (by rw[hL];simp)
theorem Ap(F:sD c Q eo en b)(ht:dK c)(hL:cps c.T=pre++(60::47::(ls++w')))(V:∀x∈ls,isLet x=true)(h2:∀ch W,w'=ch::W->isLet ch=false)
 (M:ls≠[]->Mt c ls->∀ch W,w'=ch::W->cU ch=true->Reach c Q en (some (ag ls)) (pre.length+2+ls.length) (rowOf c pre))
 (O:cq c (60::47::(ls++w'))=false->∀tb,Reach c Q b tb (pre.length+2+ls.length) (rowOf c (pre++60::47::ls))):
 Reach c Q eo (some (ag [])) (pre.length+2) (rowOf c pre):=by
 have hlen:=ht.len
 have J:ls.length<=2000:=by rw[hL]at hlen;simp at hlen;lia
 have am:aK 2000 (rowOf c pre):=ht.row hL
 have B:(0:Nat)∉(60::47::ls):=by
  intro q
  rcases List.mem_cons.mp q with q|q
  ·cases q
  ·rcases List.mem_cons.mp q with q|q
   ·cases q
   ·exact(jh (V 0 q)).1 rfl
 have H:∀x∈ls,x∈bL:=λx hx=>fj.mpr (V x hx)
 have Y:cq c (60::47::(ls++w'))=false->∀tb,Reach c Q b tb (pre.length+2+ls.length) (aJ (rowOf c pre) (60::47::ls)):=λhf tb=>by
  rw[oy B];exact O hf tb
 have K:∀a X,ls=a++X->cps c.T=(pre++60::47::a)++(X++w'):=λa X e=>by rw[hL,e];simp
 have hn:∀a:List Nat,pre.length+2+a.length=(pre++60::47::a).length:=λa=>by simp;lia
 have C:ls≠[]->Reach c Q en (some (ag ls)) (pre.length+2+ls.length) (rowOf c pre):=λN=>by
  have U:=K ls [] (by simp)
  rw[List.nil_append]at U
  cases w' with
  |nil=>
   have e:=Bv (L:=cps c.T) (n:=pre.length+2+ls.length) (U.trans (List.append_nil _)) (hn ls)
   rw[bw]at e
   rw[e]
   refine F.Ea J am ?_
   rw[<-e]
   exact Y (by
    cases q:cq c (60::47::(ls++[]))with
    |false=>rfl
    |true=>obtain⟨_,_,ch,W,e,_⟩:=(lL V h2).mp q;cases e) _
  |cons ch W=>
   have I:=bx U (hn ls)
   have Z:=ht.mem U
   have D:=h2 ch W rfl
   by_cases hs:cU ch=true
   ·by_cases hm:Mt c ls
    ·exact M N hm ch W rfl hs
    ·exact F.D_ J I (uE hs) H hm am (Y (by
      cases q:cq c (60::47::(ls++ch::W))with
      |false=>rfl
      |true=>exact absurd ((lL V h2).mp q).2.1 hm) _)
   ·refine F.D9 J I (eR Z.1 λq=> ?_) am (Y (by
     cases q:cq c (60::47::(ls++ch::W))with
     |false=>rfl
     |true=>
      obtain⟨_,_,P,w2,e,E⟩:=(lL V h2).mp q
      injection e with e1 e2
      rw[<-e1]at E
      exact absurd E hs) _)
    rcases List.mem_append.mp q with q|q
    ·rcases List.mem_append.mp q with q|q
     ·rw[fj.mp q]at D;cases D
     ·exact hs (mI (List.mem_append.mpr (.inl q)) Z.2.2)
    ·exact hs (mI (List.mem_append.mpr (.inr q)) Z.2.2)
 have walk:∀X a,ls=a++X->a≠[]->Reach c Q en (some (ag a)) (pre.length+2+a.length) (rowOf c pre):=by
  intro X
  induction X with
  |nil=>
   intro a e N
   rw[List.append_nil]at e
   subst e
   exact C N
  |cons x X ih=>
   intro a e N
   have U:=K a (x::X) e
   have hx:x∈bL:=H x (by rw[e];simp)
   have A:a.length<=2000:=by rw[e,List.length_append]at J;lia
   have:=ih (a++[x]) (by rw[e];simp) (by simp)
   rw[List.length_append,List.length_singleton,<-Nat.add_assoc]at this
   exact F.D8 A (bx U (hn a)) hx this
 cases G:ls with
 |nil=>
  subst G
  have U:=K [] [] rfl
  rw[List.nil_append]at U
  cases w' with
  |nil=>
   have e:=Bv (L:=cps c.T) (n:=pre.length+2) (U.trans (List.append_nil _)) (hn [])
   rw[bw]at e
   rw[e]
   refine F.tx am ?_
   rw[<-e]
   exact Y (by
    cases q:cq c (60::47::([]++[]))with
    |false=>rfl
    |true=>exact absurd rfl ((lL V h2).mp q).1) _
  |cons ch W=>
   have Z:=ht.mem U
   refine F.tw (bx U (hn [])) (eR Z.1 λq=> ?_) am (Y (by
    cases q:cq c (60::47::([]++ch::W))with
    |false=>rfl
    |true=>exact absurd rfl ((lL V h2).mp q).1) _)
   have:=h2 ch W rfl
   rw[fj.mp q]at this;cases this
 |cons x S=>
  have U:=K [] ls rfl
  rw[G]at U
  have hx:x∈bL:=H x (by rw[G];simp)
  have:=walk S [x] (by rw[G];rfl) (by simp)
  exact F.tv (bx U (hn [])) hx this
structure Sr(c:RD)(Q:FL×ES->Prop)(b lt eo:Nat):Prop where
 lt':∀{n row tb},(cps c.T)[n]?=some 60->Reach c Q lt tb (n+1) row->Reach c Q b tb n row
 nul:∀{n row tb},(cps c.T)[n]?=some 0->aK 2000 row->Reach c Q b tb (n+1) (aJ (row++[hB]) [65533])->Reach c Q b tb n row
 txt:∀{n row tb ch},(cps c.T)[n]?=some ch->ch∈cH->ch≠38->ch≠60->ch≠0->aK 2000 row->∃m,m<=((cps c.T).drop (n+1)).length/\(∀x∈((cps c.T).drop (n+1)).take m,x≠0/\x≠60)/\(Reach c Q b tb (n+1+m) (aJ row (ch::((cps c.T).drop (n+1)).take m))->Reach c Q b tb n row)
 sl:∀{n row tb},(cps c.T)[n]?=some 47->Reach c Q eo (some (ag [])) (n+1) row->Reach c Q lt tb n row
 Ec:∀{n row tb ch},(cps c.T)[n]?=some ch->ch∈cH->ch≠47->(b=339->ch≠33)->aK 2000 row->Reach c Q b tb n (aJ row [60])->Reach c Q lt tb n row
 eof:∀{row tb},aK 2000 row->Reach c Q b tb c.T.length (aJ row [60])->Reach c Q lt tb c.T.length row
end
section
variable{c:RD}{Q:FL×ES->Prop}{pre ls w w':List Nat}{b lt eo en e0:Nat}
theorem N6{q:Str->Bool}{n x:Nat}(h0:pC q 0=false)(U:pC q 60=false)(h:x∈((cps c.T).drop n).take (fW q c n)):x≠0/\x≠60:=by
 have:=uC (P:=pC q) _ x h
 constructor
 ·rintro rfl;rw[h0]at this;cases this
 ·rintro rfl;rw[U]at this;cases this
theorem AZ{q:Str->Bool}{n:Nat}:fW q c n<=((cps c.T).drop n).length:=u8 _
theorem C8:pC qB 0=false/\pC qB 60=false:=by constructor<;>kernel_rfl
theorem wO:pC qC 0=false/\pC qC 60=false/\pC qC 45=false:=by refine⟨?_, ?_, ?_⟩<;>kernel_rfl
theorem rE(ht:dK c):Sr c Q 339 416 423 where
 lt':=λU h=>JG U (by decide) h
 nul:=λU am h=>GO U (by decide) am h
 txt:=λ{n row tb ch} U V Z W h0 am=>by
  have hT:c.T.length<=2000:=by rw[<-bw];exact ht.len
  exact⟨_,AZ,λx hx=>N6 C8.1 C8.2 hx,λh=>GP hT U (eR V (by simp[h0,W])) am h⟩
 sl:=λU h=>JH U (by decide) (by rw[<-rD]at h⊢;exact h)
 Ec:=λ{n row tb ch} U V X Y am h=>GQ U (eR V (by
  have:=Y rfl
  simp[X,this])) am h
 eof:=λam h=>GR am h
end
noncomputable def fw:List Nat:=[115,99,114,105,112,116]
noncomputable def ci(w:List Nat):Bool:=cP (60::fw) w
noncomputable def bG(w:List Nat):Bool:=cP (60::47::fw) w
noncomputable def ly(c:RD):List Nat->Option Bool->Nat->Nat->Nat×Bool
 |[],m,_,n=>(n,m==some true)
 |ch::w,m,k,n=>Nat.casesOn k
  (Option.casesOn m (if cq c (ch::w)=true then(n,false)else if(ch::w).take 4=[60,33,45,45]then ly c w (some false) 1 (n+1)else ly c w none 0 (n+1)) λi=>
   if(ch::w).take 3=[45,45,62]then ly c w none 2 (n+1)else if i=true then ly c w (some (!bG (ch::w))) 0 (n+1)else if cq c (ch::w)=true then(n,false)else ly c w (some (ci (ch::w))) 0 (n+1))
  λk=>ly c w m k (n+1)
noncomputable def sc(c:RD)(m:Option Bool)(w:List Nat)(n:Nat):Nat×Bool:=ly c w m 0 n
section
variable{c:RD}{w:List Nat}{n ch:Nat}{i:Bool}
theorem lM:sc c none (ch::w) n=if cq c (ch::w)=true then(n,false)else if(ch::w).take 4=[60,33,45,45]then sc c (some false) (w.drop 1) (n+2)else sc c none w (n+1):=by
 show(if cq c (ch::w)=true then(n,false)else if(ch::w).take 4=[60,33,45,45]then ly c w (some false) 1 (n+1)else sc c none w (n+1))=_
 by_cases q:(ch::w).take 4=[60,33,45,45]
 ·rw[if_pos q,if_pos q]
  cases w with
  |nil=>cases q
  |cons=>rfl
 ·rw[if_neg q,if_neg q]
theorem kH:sc c (some i) (ch::w) n=if(ch::w).take 3=[45,45,62]then sc c none (w.drop 2) (n+3)else if i=true then sc c (some (!bG (ch::w))) w (n+1)else if cq c (ch::w)=true then(n,false)else sc c (some (ci (ch::w))) w (n+1):=by
 by_cases q:(ch::w).take 3=[45,45,62]
 ·refine(if_pos q).trans (Eq.trans ?_ (if_pos q).symm)
  cases w with
  |nil=>cases q
  |cons a w=>cases w with
   |nil=>cases q
   |cons=>rfl
 ·exact(if_neg q).trans (if_neg q).symm
theorem low_ne{a b:Nat}(h:isLet b=false)(hb:97<=a/\a<=122):aI b≠a:=λq=>by
 have:=vb.mpr (show 97<=aI b/\aI b<=122 by lia)
 rw[this]at h;cases h
theorem vz{b:Nat}(h:b≠60):aI b≠60:=λq=>by
 unfold aI at q
 cases e:(Nat.ble 65 b&&Nat.ble b 90)with
 |true=>
  rw[e]at q
  rw[Bool.and_eq_true]at e
  have:=Nat.le_of_ble_eq_true e.1
  simp only[cond_true]at q
  lia
 |false=>rw[e]at q;exact h q
theorem Bw{b:Nat}(h:b≠47):aI b≠47:=λq=>by
 unfold aI at q
 cases e:(Nat.ble 65 b&&Nat.ble b 90)with
 |true=>
  rw[e]at q
  rw[Bool.and_eq_true]at e
  have:=Nat.le_of_ble_eq_true e.1
  simp only[cond_true]at q
  lia
 |false=>rw[e]at q;exact h q
theorem rF(h:ch≠60):ci (ch::w)=false:=jb (vz h)
theorem rG(h:ch≠60):bG (ch::w)=false:=jb (vz h)
theorem jd(V:ch≠45)(h2:ch≠60):sc c (some i) (ch::w) n=sc c (some i) w (n+1):=by
 rw[kH,if_neg (λq=>by rw[List.take_succ_cons]at q;injection q with q _;exact V q)]
 cases i with
 |true=>rw[if_pos rfl,rG h2];rfl
 |false=>rw[if_neg (by decide),oG h2 (.inr trivial),if_neg (by decide),rF h2]
theorem qV{seg:List Nat}:∀{w:List Nat} {n:Nat},(∀x∈seg,x≠45/\x≠60)->sc c (some i) (seg++w) n=sc c (some i) w (n+seg.length):=by
 induction seg with
 |nil=>exactλ_=>rfl
 |cons x seg ih=>
  intro w n h
  rw[List.cons_append,jd (h x (.head _)).1 (h x (.head _)).2,ih λy hy=>h y (.tail _ hy),List.length_cons,Nat.add_assoc,Nat.add_comm 1]
theorem il(h:∀w',w≠45::62::w'):sc c (some i) (45::w) n=sc c (some i) w (n+1):=by
 rw[kH,if_neg (λq=>by
  match w,q with
  |[],q=>cases q
  |[a],q=>cases q
  |a::b::w,q=>
   simp only[List.take_succ_cons,List.take_zero,List.cons.injEq,and_true,true_and]at q
   exact h w (by rw[q.1,q.2]))]
 cases i with
 |true=>rw[if_pos rfl,rG (by decide)];rfl
 |false=>rw[if_neg (by decide),oG (by decide) (.inr trivial),if_neg (by decide),rF (by decide)]
theorem A0:sc c (some i) (45::45::62::w) n=sc c none w (n+3):=by
 rw[kH,if_pos (show List.take 3 (45::45::62::w)=[45,45,62]from rfl)];rfl
theorem oz(h:ch≠60):sc c none (ch::w) n=sc c none w (n+1):=by
 rw[lM,oG h (.inr trivial),if_neg (by decide),if_neg (λq=>by rw[List.take_succ_cons]at q;injection q with q _;exact h q)]
theorem Aq{seg:List Nat}:∀{w:List Nat} {n:Nat},(∀x∈seg,x≠60)->sc c none (seg++w) n=sc c none w (n+seg.length):=by
 induction seg with
 |nil=>exactλ_=>rfl
 |cons x seg ih=>
  intro w n h
  rw[List.cons_append,oz (h x (.head _)),ih λy hy=>h y (.tail _ hy),List.length_cons,Nat.add_assoc,Nat.add_comm 1]
theorem rH(V:cq c (60::w)=false)(h2:∀w',w≠33::45::45::w'):sc c none (60::w) n=sc c none w (n+1):=by
 rw[lM,V,if_neg (by decide),if_neg (λq=>by
  match w,q with
  |[],q=>cases q
  |[a],q=>cases q
  |[a,b],q=>cases q
  |a::b::d::w,q=>
   simp only[List.take_succ_cons,List.take_zero,List.cons.injEq,and_true,true_and]at q
   exact h2 w (by rw[q.1,q.2.1,q.2.2]))]
theorem J1:sc c none (60::33::45::45::w) n=sc c (some false) (45::45::w) (n+2):=by
 rw[lM,lE (λw' e=>by cases e),if_neg (by decide),if_pos (show List.take 4 (60::33::45::45::w)=[60,33,45,45]from rfl)];rfl
theorem lP(h:cq c (60::w)=false):sc c (some false) (60::w) n=sc c (some (ci (60::w))) w (n+1):=by
 rw[kH,if_neg (λq=>by rw[List.take_succ_cons]at q;injection q with q _;exact absurd q (by decide)),if_neg (by decide),h,if_neg (by decide)]
theorem L1(h:cq c (60::w)=true):sc c (some false) (60::w) n=(n,false):=by
 rw[kH,if_neg (λq=>by rw[List.take_succ_cons]at q;injection q with q _;exact absurd q (by decide)),if_neg (by decide),h,if_pos rfl]
theorem L2(h:cq c (60::w)=true):sc c none (60::w) n=(n,false):=by
 rw[lM,h,if_pos rfl]
theorem N7:sc c (some true) (60::w) n=sc c (some (!bG (60::w))) w (n+1):=by
 rw[kH,if_neg (λq=>by rw[List.take_succ_cons]at q;injection q with q _;exact absurd q (by decide)),if_pos rfl]
theorem qW{ls w:List Nat}(V:∀x∈ls,isLet x=true)(h2:∀ch w',w=ch::w'->isLet ch=false):ci (60::(ls++w))=true<->ls.map aI=fw/\∃ch w',w=ch::w'/\cU ch=true:=by
 unfold ci
 rw[jc (by decide)]
 exact qK (by decide) V h2
theorem qX{ls w:List Nat}(V:∀x∈ls,isLet x=true)(h2:∀ch w',w=ch::w'->isLet ch=false):bG (60::47::(ls++w))=true<->ls.map aI=fw/\∃ch w',w=ch::w'/\cU ch=true:=by
 unfold bG
 rw[jc (by decide),jc (by decide)]
 exact qK (by decide) V h2
theorem t8(h:∀a w',w=a::w'->isLet a=false):ci (60::w)=false:=by
 unfold ci
 rw[jc (by decide)]
 cases w with
 |nil=>exact ou
 |cons a w=>exact jb (low_ne (h a w rfl) (by decide))
theorem y6(h:∀w',w≠47::w'):bG (60::w)=false:=by
 unfold bG
 rw[jc (by decide)]
 cases w with
 |nil=>exact ou
 |cons a w=>exact jb (Bw λe=>h w (by rw[e]))
end
structure jr(c:RD)(Q:FL×ES->Prop)(e0:Nat)(i0:Bool):Prop where
 x1:i0=false->(cps c.T).length=e0->∀tb,Reach c Q 339 tb c.T.length (rowOf c (cps c.T))
 x2:i0=false->(cps c.T).length=e0->∀tb,Reach c Q 304 tb c.T.length (rowOf c (cps c.T))
 x3:i0=true->(cps c.T).length=e0->∀tb,Reach c Q 304 tb c.T.length (rowOf c (cps c.T)++[.err 1])
 f:∀en,(en=430\/en=486)->∀pre ls ch w',cps c.T=pre++(60::47::(ls++ch::w'))->pre.length=e0->i0=false->ls≠[]->(∀x∈ls,isLet x=true)->cU ch=true->Mt c ls->Reach c Q en (some (ag ls)) (pre.length+2+ls.length) (rowOf c pre)
structure GS(c:RD)(Q:FL×ES->Prop)(e0:Nat)(i0:Bool)(pre w:List Nat):Prop where
 S:sc c none w pre.length=(e0,i0)->∀tb,Reach c Q 339 tb pre.length (rowOf c pre)
 E0:sc c (some false) w pre.length=(e0,i0)->∀tb,Reach c Q 451 tb pre.length (rowOf c pre)
 E1:∀n,n+1=pre.length->sc c (some false) (45::w) n=(e0,i0)->∀tb,Reach c Q 458 tb pre.length (rowOf c pre)
 E2:∀n,n+2=pre.length->sc c (some false) (45::45::w) n=(e0,i0)->∀tb,Reach c Q 465 tb pre.length (rowOf c pre)
 D0:sc c (some true) w pre.length=(e0,i0)->∀tb,Reach c Q 500 tb pre.length (rowOf c pre)
 D1:∀n,n+1=pre.length->sc c (some true) (45::w) n=(e0,i0)->∀tb,Reach c Q 507 tb pre.length (rowOf c pre)
 D2:∀n,n+2=pre.length->sc c (some true) (45::45::w) n=(e0,i0)->∀tb,Reach c Q 514 tb pre.length (rowOf c pre)
section
variable{c:RD}{Q:FL×ES->Prop}{e0:Nat}{i0:Bool}{pre w:List Nat}
theorem lN:aJ (rowOf c pre++[hB]) [65533]=rowOf c (pre++[0]):=by rw[zF];rfl
theorem cp{x:Nat}(h:x≠0):aJ (rowOf c pre) [x]=rowOf c (pre++[x]):=oy (by simpa usingλe=>h e.symm)
theorem A1{x y:Nat}(h:x≠0)(h2:y≠0):aJ (rowOf c pre) [x,y]=rowOf c (pre++[x,y]):=oy (by
 intro q
 rcases List.mem_cons.mp q with q|q
 ·exact h q.symm
 ·exact h2 (List.mem_singleton.mp q).symm)
noncomputable abbrev jH(c:RD)(Q:FL×ES->Prop)(e0:Nat)(i0:Bool)(pre w:List Nat):Prop:=∀seg w',w=seg++w'->seg≠[]->GS c Q e0 i0 (pre++seg) w'
theorem wP{w1:List Nat}(ht:dK c)(fin:jr c Q e0 i0)(hL:cps c.T=pre++60::w1)(go:jH c Q e0 i0 pre (60::w1))(he:sc c (some false) (60::w1) pre.length=(e0,i0))(tb:Option Str):Reach c Q 472 tb (pre.length+1) (rowOf c pre):=by
 have am:=ht.row hL
 have F:=N4 (Q:=Q) ht.nm
 have g1:=go [60] w1 rfl (by simp)
 have Y:(pre++[60]).length=pre.length+1:=by simp
 cases w1 with
 |nil=>
  have hn:pre.length+1=c.T.length:=by rw[<-bw,hL];simp
  rw[hn]
  refine G9 am ?_
  rw[<-hn,cp (by decide)]
  have:=g1.E0 (by
   rw[lP (lE λw' e=>by cases e),t8 (λa w' e=>by cases e)]at he
   rw[Y];exact he) tb
  rw[Y]at this;exact this
 |cons c1 w2=>
  have O:cps c.T=(pre++[60])++c1::w2:=by rw[hL];simp
  have I:=bx (n:=pre.length+1) O Y.symm
  have R:=ht.mem O
  by_cases K:c1=47
  ·subst K
   refine JS I (by decide) ?_
   obtain⟨ls,w',e,s1,s2⟩:=mJ w2
   subst e
   refine Ap F ht hL s1 s2 (λX hm ch U e hs=> ?_) (λhf tb=> ?_)
   ·subst e
    have w:cq c (60::47::(ls++ch::U))=true:=(lL s1 s2).mpr ⟨X,hm,ch,U,rfl,hs⟩
    rw[L1 w]at he
    injection he with e1 e2
    exact fin.f 486 (.inr rfl) pre ls ch U hL e1 e2.symm X s1 hs hm
   ·have g:=go (60::47::ls) w' rfl (by simp)
    have B:(pre++60::47::ls).length=pre.length+2+ls.length:=by simp;lia
    have:=g.E0 (by
     rw[lP hf,t8 (λa w' e=>by injection e with e _;subst e;rfl),show 47::(ls++w')=(47::ls)++w' from rfl,qV (λx hx=>by
      rcases List.mem_cons.mp hx with rfl|hx
      ·decide
      ·exact⟨(jh (s1 x hx)).2.2,(jh (s1 x hx)).2.1⟩)]at he
     rw[B,<-he]
     congr 1
     simp;lia) tb
    rw[B]at this;exact this
  ·by_cases hl:isLet c1=true
   ·refine G7 I (fj.mpr hl) am ?_
    rw[A1 (by decide) (jh hl).1]
    obtain⟨ls,w',e,s1,s2⟩:=mJ (c1::w2)
    rw[e]at hL go he
    have C:∀x∈ls,x≠0/\x≠60/\x≠45:=λx hx=>jh (s1 x hx)
    have L:cq c (60::(ls++w'))=false:=by
     rw[<-e];exact lE λw' q=>K (by injection q)
    have hlen:=ht.len
    have Z:ls.length<=2000:=by rw[hL]at hlen;simp at hlen;lia
    have V:∀a:List Nat,(pre++60::a).length=pre.length+1+a.length:=λa=>by simp;lia
    have N:∀(i:Bool) (n:Nat),sc c (some i) (ls++w') n=sc c (some i) w' (n+ls.length):=λi n=>qV λx hx=>⟨(C x hx).2.2,(C x hx).2.1⟩
    have y:ls≠[]->Reach c Q 493 (some (ag ls)) (pre.length+1+ls.length) (rowOf c (pre++60::ls)):=λX=>by
     have W:cps c.T=(pre++60::ls)++w':=by rw[hL];simp
     have A:=ht.row W
     have g:=go (60::ls) w' rfl (by simp)
     cases w' with
     |nil=>
      rw[List.append_nil]at W
      have hn:pre.length+1+ls.length=c.T.length:=by rw[<-bw,W];exact(V ls).symm
      rw[hn]
      refine Hc Z ?_
      rw[<-hn,<-V]
      refine g.E0 ?_ _
      have ho:ci (60::(ls++[]))=false:=by
       cases q:ci (60::(ls++[]))with
       |false=>rfl
       |true=>
        obtain⟨_,ch,U,e,_⟩:=(qW s1 s2).mp q
        cases e
      rw[lP L,ho,N]at he
      rw[V];exact he
     |cons ch U=>
      have D:=bx (n:=pre.length+1+ls.length) W (V ls).symm
      have E:=ht.mem W
      have S:=s2 ch U rfl
      by_cases hs:cU ch=true
      ·have hm:=uE hs
       have h0:ch≠0/\ch≠45/\ch≠60:=by rcases kD.mp hs with rfl|rfl|rfl|rfl|rfl<;>decide
       have g2:=go (60::ls++[ch]) U (by simp) (by simp)
       have e2:pre++(60::ls++[ch])=(pre++60::ls)++[ch]:=by simp
       have G:(pre++(60::ls++[ch])).length=pre.length+1+ls.length+1:=by rw[e2,List.length_append,V];rfl
       by_cases H:ls.map aI=fw
       ·refine G_ Z D hm (by rw[qJ λx hx=>fj.mpr (s1 x hx)];exact decide_eq_true H) A ?_
        rw[cp h0.1,<-e2,<-G]
        refine g2.D0 ?_ _
        rw[lP L,show ci (60::(ls++ch::U))=true from(qW s1 s2).mpr ⟨H,ch,U,rfl,hs⟩,N,jd h0.2.1 h0.2.2]at he
        rw[G];exact he
       ·refine G' Z D hm (by rw[qJ λx hx=>fj.mpr (s1 x hx)];exact decide_eq_false H) A ?_
        rw[cp h0.1,<-e2,<-G]
        refine g2.E0 ?_ _
        rw[lP L,show ci (60::(ls++ch::U))=false by
         cases q:ci (60::(ls++ch::U))with
         |false=>rfl
         |true=>exact absurd ((qW s1 s2).mp q).1 H,N,jd h0.2.1 h0.2.2]at he
        rw[G];exact he
      ·refine Hb Z D (eR E.1 λq=> ?_) ?_
       ·rcases List.mem_append.mp q with q|q
        ·rcases List.mem_append.mp q with q|q
         ·rw[fj.mp q]at S;cases S
         ·exact hs (mI (List.mem_append.mpr (.inl q)) E.2.2)
        ·exact hs (mI (List.mem_append.mpr (.inr q)) E.2.2)
       ·rw[<-V]
        refine g.E0 ?_ _
        rw[lP L,show ci (60::(ls++ch::U))=false by
         cases q:ci (60::(ls++ch::U))with
         |false=>rfl
         |true=>
          obtain⟨_,k,w2,e,P⟩:=(qW s1 s2).mp q
          injection e with e1 e2
          rw[<-e1]at P
          exact absurd P hs,N]at he
        rw[V];exact he
    have walk:∀J a,ls=a++J->a≠[]->Reach c Q 493 (some (ag a)) (pre.length+1+a.length) (rowOf c (pre++60::a)):=by
     intro J
     induction J with
     |nil=>
      intro a e X
      rw[List.append_nil]at e
      subst e
      exact y X
     |cons x J ih=>
      intro a e X
      have W:cps c.T=(pre++60::a)++x::(J++w'):=by rw[hL,e];simp
      have hx:isLet x=true:=s1 x (by rw[e];simp)
      have u:a.length<=2000:=by rw[e,List.length_append]at Z;lia
      have:=ih (a++[x]) (by rw[e];simp) (by simp)
      rw[List.length_append,List.length_singleton,<-Nat.add_assoc,show pre++60::(a++[x])=(pre++60::a)++[x] by simp]at this
      refine Ha u (bx W (V a).symm) (fj.mpr hx) (ht.row W) ?_
      rw[cp (jh hx).1]
      exact this
    cases M:ls with
    |nil=>
     rw[M,List.nil_append]at e
     have:=s2 c1 w2 e.symm
     rw[this]at hl;cases hl
    |cons x z=>
     have ex:x=c1:=by rw[M]at e;injection e with e _;exact e.symm
     have:=walk z [x] (by rw[M];rfl) (by simp)
     rw[ex]at this
     exact this
   ·refine G8 I (eR R.1 λq=> ?_) am ?_
    ·rcases List.mem_append.mp q with q|q
     ·exact hl (fj.mp q)
     ·exact K (by simpa using q)
    ·rw[cp (by decide)]
     have:=g1.E0 (by
      rw[lP (lE λw' e=>K (by injection e)),t8 (λa w' e=>by
       injection e with e _
       rw[<-e]
       cases q:isLet c1 with
       |false=>rfl
       |true=>exact absurd q hl)]at he
      rw[Y];exact he) tb
     rw[Y]at this;exact this
end
section
variable{c:RD}{Q:FL×ES->Prop}{e0:Nat}{i0:Bool}{pre w:List Nat}
theorem wQ{w1:List Nat}(ht:dK c)(fin:jr c Q e0 i0)(hL:cps c.T=pre++60::w1)(go:jH c Q e0 i0 pre (60::w1))(he:sc c (some true) (60::w1) pre.length=(e0,i0))(tb:Option Str):Reach c Q 521 tb (pre.length+1) (rowOf c (pre++[60])):=by
 have L:cps c.T=(pre++[60])++w1:=by rw[hL];simp
 have am:=ht.row L
 have g1:=go [60] w1 rfl (by simp)
 have X:(pre++[60]).length=pre.length+1:=by simp
 rw[N7]at he
 cases w1 with
 |nil=>
  have hn:pre.length+1=c.T.length:=by rw[<-bw,hL];simp
  rw[hn]
  refine Ht ?_
  rw[<-hn]
  have:=g1.D0 (by
   rw[y6 (λw' e=>by cases e)]at he
   rw[X];exact he) tb
  rw[X]at this;exact this
 |cons c1 w2=>
  have I:=bx (n:=pre.length+1) L X.symm
  have O:=ht.mem L
  by_cases N:c1=47
  ·subst N
   refine J0 I (by decide) am ?_
   rw[cp (by decide),show(pre++[60])++[47]=pre++[60,47] by simp]
   obtain⟨ls,w',e,s1,s2⟩:=mJ w2
   subst e
   have D:∀x∈ls,x≠0/\x≠60/\x≠45:=λx hx=>jh (s1 x hx)
   have hlen:=ht.len
   have Y:ls.length<=2000:=by rw[hL]at hlen;simp at hlen;lia
   have V:∀a:List Nat,(pre++60::47::a).length=pre.length+2+a.length:=λa=>by simp;lia
   have B:∀(i:Bool) (n:Nat),sc c (some i) (47::(ls++w')) n=sc c (some i) w' (n+1+ls.length):=λi n=>by
    rw[jd (by decide) (by decide),qV λx hx=>⟨(D x hx).2.2,(D x hx).2.1⟩]
   rw[B]at he
   have C:Reach c Q 528 (some (ag ls)) (pre.length+2+ls.length) (rowOf c (pre++60::47::ls)):=by
    have W:cps c.T=(pre++60::47::ls)++w':=by rw[hL];simp
    have E:=ht.row W
    have g:=go (60::47::ls) w' rfl (by simp)
    cases w' with
    |nil=>
     rw[List.append_nil]at W
     have hn:pre.length+2+ls.length=c.T.length:=by rw[<-bw,W];exact(V ls).symm
     rw[hn]
     refine Hi Y ?_
     rw[<-hn,<-V]
     have ho:bG (60::47::(ls++[]))=false:=by
      cases q:bG (60::47::(ls++[]))with
      |false=>rfl
      |true=>
       obtain⟨_,ch,U,e,_⟩:=(qX s1 s2).mp q
       cases e
     rw[ho]at he
     refine g.D0 ?_ _
     rw[V];exact he
    |cons ch U=>
     have G:=bx (n:=pre.length+2+ls.length) W (V ls).symm
     have H:=ht.mem W
     have F:=s2 ch U rfl
     by_cases hs:cU ch=true
     ·have hm:=uE hs
      have h0:ch≠0/\ch≠45/\ch≠60:=by rcases kD.mp hs with rfl|rfl|rfl|rfl|rfl<;>decide
      have g2:=go (60::47::ls++[ch]) U (by simp) (by simp)
      have e2:pre++(60::47::ls++[ch])=(pre++60::47::ls)++[ch]:=by simp
      have J:(pre++(60::47::ls++[ch])).length=pre.length+2+ls.length+1:=by rw[e2,List.length_append,V];rfl
      by_cases K:ls.map aI=fw
      ·refine Hd Y G hm (by rw[qJ λx hx=>fj.mpr (s1 x hx)];exact decide_eq_true K) E ?_
       rw[cp h0.1,<-e2,<-J]
       refine g2.E0 ?_ _
       rw[show bG (60::47::(ls++ch::U))=true from(qX s1 s2).mpr ⟨K,ch,U,rfl,hs⟩]at he
       have he:sc c (some false) (ch::U) (pre.length+1+1+ls.length)=(e0,i0):=he
       rw[jd h0.2.1 h0.2.2]at he
       rw[J];exact he
      ·refine He Y G hm (by rw[qJ λx hx=>fj.mpr (s1 x hx)];exact decide_eq_false K) E ?_
       rw[cp h0.1,<-e2,<-J]
       refine g2.D0 ?_ _
       have ho:bG (60::47::(ls++ch::U))=false:=by
        cases q:bG (60::47::(ls++ch::U))with
        |false=>rfl
        |true=>exact absurd ((qX s1 s2).mp q).1 K
       rw[ho]at he
       have he:sc c (some true) (ch::U) (pre.length+1+1+ls.length)=(e0,i0):=he
       rw[jd h0.2.1 h0.2.2]at he
       rw[J];exact he
     ·refine Hh Y G (eR H.1 λq=> ?_) ?_
      ·rcases List.mem_append.mp q with q|q
       ·rcases List.mem_append.mp q with q|q
        ·rw[fj.mp q]at F;cases F
        ·exact hs (mI (List.mem_append.mpr (.inl q)) H.2.2)
       ·exact hs (mI (List.mem_append.mpr (.inr q)) H.2.2)
      ·rw[<-V]
       refine g.D0 ?_ _
       have ho:bG (60::47::(ls++ch::U))=false:=by
        cases q:bG (60::47::(ls++ch::U))with
        |false=>rfl
        |true=>
         obtain⟨_,S,w2,e,M⟩:=(qX s1 s2).mp q
         injection e with e1 e2
         rw[<-e1]at M
         exact absurd M hs
       rw[ho]at he
       rw[V];exact he
   have walk:∀Z a,ls=a++Z->Reach c Q 528 (some (ag a)) (pre.length+2+a.length) (rowOf c (pre++60::47::a)):=by
    intro Z
    induction Z with
    |nil=>
     intro a e
     rw[List.append_nil]at e
     subst e
     exact C
    |cons x Z ih=>
     intro a e
     have W:cps c.T=(pre++60::47::a)++x::(Z++w'):=by rw[hL,e];simp
     have hx:isLet x=true:=s1 x (by rw[e];simp)
     have A:a.length<=2000:=by rw[e,List.length_append]at Y;lia
     have:=ih (a++[x]) (by rw[e];simp)
     rw[List.length_append,List.length_singleton,<-Nat.add_assoc,show pre++60::47::(a++[x])=(pre++60::47::a)++[x] by simp]at this
     refine Hf A (bx W (V a).symm) (fj.mpr hx) (ht.row W) ?_
     rw[cp (jh hx).1]
     exact this
   exact walk ls [] rfl
  ·refine Hs I (eR O.1 (by simpa using N)) ?_
   have:=g1.D0 (by
    rw[y6 (λw' e=>N (by injection e))]at he
    rw[X];exact he) tb
   rw[X]at this;exact this
theorem vA{m:Option Bool}{n:Nat}:sc c m [] n=(n,m==some true):=rfl
variable{w1:List Nat}{ch n:Nat}
theorem e9:(pre++[ch]).length=pre.length+1:=by rw[List.length_append];rfl
theorem jH.one(go:jH c Q e0 i0 pre (ch::w1)):GS c Q e0 i0 (pre++[ch]) w1:=go [ch] w1 rfl (by simp)
section
variable(g:GS c Q e0 i0 (pre++[ch]) w1)
include g
theorem GS.pS(h:sc c none w1 (pre.length+1)=(e0,i0))(tb:Option Str):Reach c Q 339 tb (pre.length+1) (rowOf c (pre++[ch])):=by
 have:=g.S (by rw[e9];exact h) tb
 rw[e9]at this;exact this
theorem GS.qj(h:sc c (some false) w1 (pre.length+1)=(e0,i0))(tb:Option Str):Reach c Q 451 tb (pre.length+1) (rowOf c (pre++[ch])):=by
 have:=g.E0 (by rw[e9];exact h) tb
 rw[e9]at this;exact this
theorem GS.nX(h:sc c (some true) w1 (pre.length+1)=(e0,i0))(tb:Option Str):Reach c Q 500 tb (pre.length+1) (rowOf c (pre++[ch])):=by
 have:=g.D0 (by rw[e9];exact h) tb
 rw[e9]at this;exact this
theorem GS.Ul(h:sc c (some false) (45::w1) pre.length=(e0,i0))(tb:Option Str):Reach c Q 458 tb (pre.length+1) (rowOf c (pre++[ch])):=by
 have:=g.E1 pre.length e9.symm h tb
 rw[e9]at this;exact this
theorem GS.Um(h:sc c (some true) (45::w1) pre.length=(e0,i0))(tb:Option Str):Reach c Q 507 tb (pre.length+1) (rowOf c (pre++[ch])):=by
 have:=g.D1 pre.length e9.symm h tb
 rw[e9]at this;exact this
theorem GS.Ed(hn:n+1=pre.length)(h:sc c (some false) (45::45::w1) n=(e0,i0))(tb:Option Str):Reach c Q 465 tb (pre.length+1) (rowOf c (pre++[ch])):=by
 have:=g.E2 n (by rw[e9];lia) h tb
 rw[e9]at this;exact this
theorem GS.Ee(hn:n+1=pre.length)(h:sc c (some true) (45::45::w1) n=(e0,i0))(tb:Option Str):Reach c Q 514 tb (pre.length+1) (rowOf c (pre++[ch])):=by
 have:=g.D2 n (by rw[e9];lia) h tb
 rw[e9]at this;exact this
end
theorem wR(V:ch≠45)(h2:ch≠60)(n:Nat)(i:Bool):sc c (some i) (45::ch::w1) n=sc c (some i) w1 (n+2):=by
 rw[il (λw' e=>by injection e with e _;exact V e),jd V h2]
theorem C9(V:ch≠45)(h2:ch≠60)(h3:ch≠62)(n:Nat)(i:Bool):sc c (some i) (45::45::ch::w1) n=sc c (some i) w1 (n+3):=by
 rw[il (λw' e=>by injection e with _ e;injection e with e _;exact h3 e),wR V h2]
theorem v8(i:Bool)(n:Nat):sc c (some i) (45::60::w1) n=sc c (some i) (60::w1) (n+1):=il (λw' e=>by injection e with e _;cases e)
theorem Bx(i:Bool)(n:Nat):sc c (some i) (45::45::60::w1) n=sc c (some i) (60::w1) (n+1+1):=by
 rw[il (λw' e=>by injection e with _ e;injection e with e _;cases e),v8]
theorem Ci(i:Bool)(n:Nat):sc c (some i) (45::45::45::w1) n=sc c (some i) (45::45::w1) (n+1):=il (λw' e=>by injection e with _ e;injection e with e _;cases e)
theorem N8(ht:dK c)(fin:jr c Q e0 i0)(hL:cps c.T=pre):GS c Q e0 i0 pre []:=by
 have hn:pre.length=c.T.length:=by rw[<-hL,bw]
 have am:=ht.row (w:=[]) (pre:=pre) (by rw[List.append_nil];exact hL)
 have U:∀n,n=pre.length->∀m,sc c m [] n=(e0,i0)->(cps c.T).length=e0/\i0=(m==some true):=λn e m h=>by
  rw[vA]at h
  injection h with V h2
  exact⟨by rw[hL,<-e];exact V,h2.symm⟩
 rw[<-hL]
 have E:∀n,n=pre.length->sc c (some false) [] n=(e0,i0)->∀tb,Reach c Q 304 tb c.T.length (rowOf c (cps c.T)):=λn e h=>fin.x2 (U n e _ h).2 (U n e _ h).1
 have D:∀n,n=pre.length->sc c (some true) [] n=(e0,i0)->∀tb,Reach c Q 304 tb c.T.length (rowOf c (cps c.T)++[.err 1]):=λn e h=>fin.x3 (U n e _ h).2 (U n e _ h).1
 have W:aK 2000 (rowOf c (cps c.T)):=by rw[hL];exact am
 have hl:(cps c.T).length=c.T.length:=bw
 refine⟨λh tb=> ?_,λh tb=> ?_,λn e h tb=> ?_,λn e h tb=> ?_,λh tb=> ?_,λn e h tb=> ?_,λn e h tb=> ?_⟩
 ·rw[hl];exact fin.x1 (U _ (by rw[hL]) _ h).2 (U _ (by rw[hL]) _ h).1 tb
 ·rw[hl];exact GZ (E _ (by rw[hL]) h tb)
 ·rw[il (λw' e=>by cases e)]at h
  rw[hl];exact G2 (E _ (by rw[hL]at e;exact e) h tb)
 ·rw[il (λw' e=>by cases e),il (λw' e=>by cases e)]at h
  rw[hl];exact G5 (E _ (by rw[hL]at e;lia) h tb)
 ·rw[hl];exact Hk W (D _ (by rw[hL]) h tb)
 ·rw[il (λw' e=>by cases e)]at h
  rw[hl];exact Hn W (D _ (by rw[hL]at e;exact e) h tb)
 ·rw[il (λw' e=>by cases e),il (λw' e=>by cases e)]at h
  rw[hl];exact Hq W (D _ (by rw[hL]at e;lia) h tb)
theorem Ss(ht:dK c)(fin:jr c Q e0 i0)(hL:cps c.T=pre++60::47::w1)(go:jH c Q e0 i0 pre (60::47::w1))(he:sc c none (60::47::w1) pre.length=(e0,i0)):Reach c Q 423 (some (ag [])) (pre.length+2) (rowOf c pre):=by
 obtain⟨ls,w',e,s1,s2⟩:=mJ w1
 subst e
 refine Ap (N3 ht.nm) ht hL s1 s2 (λU hm ch V e hs=> ?_) (λhf tb=> ?_)
 ·subst e
  rw[L2 ((lL s1 s2).mpr ⟨U,hm,ch,V,rfl,hs⟩)]at he
  injection he with e1 e2
  exact fin.f 430 (.inl rfl) pre ls ch V hL e1 e2.symm U s1 hs hm
 ·have W:(pre++60::47::ls).length=pre.length+2+ls.length:=by rw[List.length_append,List.length_cons,List.length_cons];lia
  have:=(go (60::47::ls) w' rfl (List.cons_ne_nil _ _)).S (by
   rw[rH hf (λw' e=>by injection e with e _;cases e),show 47::(ls++w')=(47::ls)++w' from rfl,Aq (λx hx=>by
    rcases List.mem_cons.mp hx with rfl|hx
    ·decide
    ·exact(jh (s1 x hx)).2.1)]at he
   rw[W,<-he,List.length_cons]
   congr 1
   lia) tb
  rw[W]at this;exact this
theorem Cj:cq c (60::33::w1)=false:=lE λw' e=>by cases e
theorem nK(a b:List Nat):(pre++a)++b=pre++(a++b):=List.append_assoc _ _ _
theorem PY(ht:dK c)(hL:cps c.T=pre++60::33::45::w1)(go:jH c Q e0 i0 pre (60::33::45::w1))(he:sc c none (60::33::45::w1) pre.length=(e0,i0))(tb:Option Str):Reach c Q 444 tb (pre.length+3) (rowOf c (pre++[60,33,45])):=by
 have U:(pre++[60,33,45]).length=pre.length+3:=List.length_append
 have X:(∀w',w1≠45::w')->∀tb,Reach c Q 339 tb (pre.length+3) (rowOf c (pre++[60,33,45])):=λh2 tb=>by
  rw[rH Cj (λw' e=>by injection e with _ e;injection e with _ e;exact h2 w' e),oz (by decide),oz (by decide)]at he
  have:=(go [60,33,45] w1 rfl (List.cons_ne_nil _ _)).S (by rw[U];exact he) tb
  rw[U]at this;exact this
 cases w1 with
 |nil=>
  have hn:pre.length+3=c.T.length:=by rw[<-bw,hL];exact U.symm
  rw[hn]
  refine GX ?_
  rw[<-hn]
  exact X (λw' e=>by cases e) _
 |cons c3 Y=>
  have V:cps c.T=(pre++[60,33,45])++c3::Y:=by rw[hL,nK];rfl
  have Z:=bx (n:=pre.length+3) V U.symm
  by_cases W:c3=45
  ·subst W
   refine JK Z (by decide) (ht.row V) ?_
   rw[cp (by decide),nK]
   have J:(pre++[60,33,45,45]).length=pre.length+4:=List.length_append
   have:=(go [60,33,45,45] Y rfl (List.cons_ne_nil _ _)).E2 (pre.length+2) (by rw[J]) (by rw[J1]at he;exact he) tb
   rw[J]at this;exact this
  ·exact GW Z (eR (ht.mem V).1 (by simpa using W)) (X (λw' e=>W (by injection e)) _)
theorem Su(ht:dK c)(hL:cps c.T=pre++60::33::w1)(go:jH c Q e0 i0 pre (60::33::w1))(he:sc c none (60::33::w1) pre.length=(e0,i0))(tb:Option Str):Reach c Q 437 tb (pre.length+2) (rowOf c (pre++[60,33])):=by
 have U:(pre++[60,33]).length=pre.length+2:=List.length_append
 have back:(∀w',w1≠45::45::w')->∀tb,Reach c Q 339 tb (pre.length+2) (rowOf c (pre++[60,33])):=λh2 tb=>by
  rw[rH Cj (λw' e=>h2 w' (by injection e)),oz (by decide)]at he
  have:=(go [60,33] w1 rfl (List.cons_ne_nil _ _)).S (by rw[U];exact he) tb
  rw[U]at this;exact this
 cases w1 with
 |nil=>
  have hn:pre.length+2=c.T.length:=by rw[<-bw,hL];exact U.symm
  rw[hn]
  refine GV ?_
  rw[<-hn]
  exact back (λw' e=>by cases e) _
 |cons c2 w3=>
  have V:cps c.T=(pre++[60,33])++c2::w3:=by rw[hL,nK];rfl
  have X:=bx (n:=pre.length+2) V U.symm
  by_cases W:c2=45
  ·subst W
   refine JJ X (by decide) (ht.row V) ?_
   rw[cp (by decide),nK]
   exact PY ht hL go he tb
  ·exact GU X (eR (ht.mem V).1 (by simpa using W)) (back (λw' e=>W (by injection e)) _)
theorem Sv(ht:dK c)(fin:jr c Q e0 i0)(hL:cps c.T=pre++60::w1)(go:jH c Q e0 i0 pre (60::w1))(he:sc c none (60::w1) pre.length=(e0,i0))(tb:Option Str):Reach c Q 416 tb (pre.length+1) (rowOf c pre):=by
 have B:=rE (Q:=Q) ht
 have am:=ht.row hL
 have X:cq c (60::w1)=false->(∀w',w1≠33::45::45::w')->∀tb,Reach c Q 339 tb (pre.length+1) (aJ (rowOf c pre) [60]):=λhf h2 tb=>by
  rw[cp (by decide)]
  rw[rH hf h2]at he
  exact go.one.pS he tb
 cases w1 with
 |nil=>
  have hn:pre.length+1=c.T.length:=by rw[<-bw,hL];exact e9.symm
  rw[hn]
  refine B.eof am ?_
  rw[<-hn]
  exact X (lE λw' e=>by cases e) (λw' e=>by cases e) _
 |cons c1 w2=>
  have Y:cps c.T=(pre++[60])++c1::w2:=by rw[hL,nK];rfl
  have U:=bx (n:=pre.length+1) Y e9.symm
  by_cases V:c1=47
  ·subst V
   exact B.sl U (Ss ht fin hL go he)
  ·by_cases W:c1=33
   ·subst W
    refine JI U (by decide) am ?_
    rw[A1 (by decide) (by decide)]
    exact Su ht hL go he tb
   ·exact B.Ec U (ht.mem Y).1 V (λ_=>W) am (X (lE λw' e=>V (by injection e)) (λw' e=>W (by injection e)) _)
section
variable(ht:dK c)(fin:jr c Q e0 i0)(hL:cps c.T=pre++ch::w1)(go:jH c Q e0 i0 pre (ch::w1))
include ht hL go
theorem seg_go{m:Nat}(hm:m<=w1.length):GS c Q e0 i0 (pre++ch::w1.take m) (w1.drop m)/\(pre++ch::w1.take m).length=pre.length+1+m/\ch::w1=(ch::w1.take m)++w1.drop m/\(ch::w1.take m).length=m+1:=by
 have e:ch::w1=(ch::w1.take m)++w1.drop m:=by rw[List.cons_append,List.take_append_drop]
 have U:(ch::w1.take m).length=m+1:=by rw[List.length_cons,List.length_take];lia
 exact⟨go _ _ e (List.cons_ne_nil _ _),by rw[List.length_append,U];lia,e,U⟩
theorem Cm:(cps c.T).drop (pre.length+1)=w1:=by rw[hL];simp
theorem PZ(U:ch≠60)(h0:ch≠0)(he:sc c none (ch::w1) pre.length=(e0,i0))(tb:Option Str):Reach c Q 339 tb pre.length (rowOf c pre):=by
 have V:=ht.mem hL
 obtain⟨m,m1,m2,m3⟩:=(rE (Q:=Q) ht).txt (tb:=tb) (bx hL rfl) V.1 V.2.1 U h0 (ht.row hL)
 rw[Cm ht hL go]at m1 m2 m3
 obtain⟨g,W,e,X⟩:=seg_go ht hL go m1
 refine m3 ?_
 rw[oy λq=>(List.mem_cons.mp q).elim (λq=>h0 q.symm) λq=>(m2 0 q).1 rfl]
 have:=g.S (by
  rw[e,Aq (λx hx=>(List.mem_cons.mp hx).elim (λq=>q▸U) λq=>(m2 x q).2),X]at he
  rw[W,Nat.add_assoc,Nat.add_comm 1];exact he) tb
 rw[W]at this;exact this
theorem P0(V:ch≠45)(W:ch≠60)(h0:ch≠0)(he:sc c (some false) (ch::w1) pre.length=(e0,i0))(tb:Option Str):Reach c Q 451 tb pre.length (rowOf c pre):=by
 have Y:=ht.mem hL
 have hT:c.T.length<=2000:=by rw[<-bw];exact ht.len
 refine G0 hT (bx hL rfl) (eR Y.1 (by simp[h0,V,W])) (ht.row hL) ?_
 have hd:=Cm ht hL go
 have Z:fW qC c (pre.length+1)=runN (pC qC) w1:=by unfold fW;rw[hd]
 have hm:fW qC c (pre.length+1)<=w1.length:=by have:=AZ (c:=c) (q:=qC) (n:=pre.length+1);rw[hd]at this;exact this
 have U:∀x∈w1.take (fW qC c (pre.length+1)),x≠0/\x≠45/\x≠60:=λx hx=>by
  rw[Z]at hx
  have:=uC (P:=pC qC) _ x hx
  refine⟨?_, ?_, ?_⟩<;>rintro rfl
  ·rw[wO.1]at this;cases this
  ·rw[wO.2.2]at this;cases this
  ·rw[wO.2.1]at this;cases this
 rw[hd]
 generalize fW qC c (pre.length+1)=m at hm U
 obtain⟨g,X,e,J⟩:=seg_go ht hL go hm
 rw[oy λq=>(List.mem_cons.mp q).elim (λq=>h0 q.symm) λq=>(U 0 q).1 rfl]
 have:=g.E0 (by
  rw[e,qV (λx hx=>(List.mem_cons.mp hx).elim (λq=>q▸⟨V,W⟩) λq=>(U x q).2),J]at he
  rw[X,Nat.add_assoc,Nat.add_comm 1];exact he) tb
 rw[X]at this;exact this
include fin
theorem Sw(he:sc c none (ch::w1) pre.length=(e0,i0))(tb:Option Str):Reach c Q 339 tb pre.length (rowOf c pre):=by
 by_cases U:ch=60
 ·subst U;exact(rE ht).lt' (bx hL rfl) (Sv ht fin hL go he tb)
 ·by_cases h0:ch=0
  ·subst h0
   refine(rE ht).nul (bx hL rfl) (ht.row hL) ?_
   rw[lN]
   rw[oz U]at he
   exact go.one.pS he tb
  ·exact PZ ht hL go U h0 he tb
theorem P1(he:sc c (some false) (ch::w1) pre.length=(e0,i0))(tb:Option Str):Reach c Q 451 tb pre.length (rowOf c pre):=by
 by_cases U:ch=45
 ·subst U
  refine JL (bx hL rfl) (by decide) (ht.row hL) ?_
  rw[cp (by decide)]
  exact go.one.Ul he tb
 ·by_cases V:ch=60
  ·subst V
   exact JM (bx hL rfl) (by decide) (wP ht fin hL go he tb)
  ·by_cases h0:ch=0
   ·subst h0
    refine GY (bx hL rfl) (by decide) (ht.row hL) ?_
    rw[lN]
    rw[jd U V]at he
    exact go.one.qj he tb
   ·exact P0 ht hL go U V h0 he tb
theorem P2(hn:n+1=pre.length)(he:sc c (some false) (45::ch::w1) n=(e0,i0))(tb:Option Str):Reach c Q 458 tb pre.length (rowOf c pre):=by
 by_cases U:ch=45
 ·subst U
  refine JN (bx hL rfl) (by decide) (ht.row hL) ?_
  rw[cp (by decide)]
  exact go.one.Ed hn he tb
 ·by_cases V:ch=60
  ·subst V
   rw[v8,hn]at he
   exact JO (bx hL rfl) (by decide) (wP ht fin hL go he tb)
  ·rw[wR U V,show n+2=pre.length+1 by lia]at he
   by_cases h0:ch=0
   ·subst h0
    refine G1 (bx hL rfl) (by decide) (ht.row hL) ?_
    rw[lN]
    exact go.one.qj he tb
   ·refine G3 (bx hL rfl) (eR (ht.mem hL).1 (by simp[h0,U,V])) (ht.row hL) ?_
    rw[cp h0]
    exact go.one.qj he tb
theorem P3(hn:n+2=pre.length)(he:sc c (some false) (45::45::ch::w1) n=(e0,i0))(tb:Option Str):Reach c Q 465 tb pre.length (rowOf c pre):=by
 by_cases U:ch=45
 ·subst U
  refine JP (bx hL rfl) (by decide) (ht.row hL) ?_
  rw[cp (by decide)]
  rw[Ci]at he
  exact go.one.Ed (by lia) he tb
 ·by_cases V:ch=60
  ·subst V
   rw[Bx,Nat.add_assoc,hn]at he
   exact JQ (bx hL rfl) (by decide) (wP ht fin hL go he tb)
  ·by_cases W:ch=62
   ·subst W
    refine JR (bx hL rfl) (by decide) (ht.row hL) ?_
    rw[cp (by decide)]
    rw[A0,show n+3=pre.length+1 by lia]at he
    exact go.one.pS he tb
   ·rw[C9 U V W,show n+3=pre.length+1 by lia]at he
    by_cases h0:ch=0
    ·subst h0
     refine G4 (bx hL rfl) (by decide) (ht.row hL) ?_
     rw[lN]
     exact go.one.qj he tb
    ·refine G6 (bx hL rfl) (eR (ht.mem hL).1 (by simp[h0,U,V,W])) (ht.row hL) ?_
     rw[cp h0]
     exact go.one.qj he tb
theorem P4(he:sc c (some true) (ch::w1) pre.length=(e0,i0))(tb:Option Str):Reach c Q 500 tb pre.length (rowOf c pre):=by
 by_cases U:ch=45
 ·subst U
  refine JT (bx hL rfl) (by decide) (ht.row hL) ?_
  rw[cp (by decide)]
  exact go.one.Um he tb
 ·by_cases V:ch=60
  ·subst V
   refine JU (bx hL rfl) (by decide) (ht.row hL) ?_
   rw[cp (by decide)]
   exact wQ ht fin hL go he tb
  ·rw[jd U V]at he
   by_cases h0:ch=0
   ·subst h0
    refine Hj (bx hL rfl) (by decide) (ht.row hL) ?_
    rw[lN]
    exact go.one.nX he tb
   ·refine Hl (bx hL rfl) (eR (ht.mem hL).1 (by simp[h0,U,V])) (ht.row hL) ?_
    rw[cp h0]
    exact go.one.nX he tb
theorem P5(hn:n+1=pre.length)(he:sc c (some true) (45::ch::w1) n=(e0,i0))(tb:Option Str):Reach c Q 507 tb pre.length (rowOf c pre):=by
 by_cases U:ch=45
 ·subst U
  refine JV (bx hL rfl) (by decide) (ht.row hL) ?_
  rw[cp (by decide)]
  exact go.one.Ee hn he tb
 ·by_cases V:ch=60
  ·subst V
   rw[v8,hn]at he
   refine JW (bx hL rfl) (by decide) (ht.row hL) ?_
   rw[cp (by decide)]
   exact wQ ht fin hL go he tb
  ·rw[wR U V,show n+2=pre.length+1 by lia]at he
   by_cases h0:ch=0
   ·subst h0
    refine Hm (bx hL rfl) (by decide) (ht.row hL) ?_
    rw[lN]
    exact go.one.nX he tb
   ·refine Ho (bx hL rfl) (eR (ht.mem hL).1 (by simp[h0,U,V])) (ht.row hL) ?_
    rw[cp h0]
    exact go.one.nX he tb
theorem P6(hn:n+2=pre.length)(he:sc c (some true) (45::45::ch::w1) n=(e0,i0))(tb:Option Str):Reach c Q 514 tb pre.length (rowOf c pre):=by
 by_cases U:ch=45
 ·subst U
  refine JX (bx hL rfl) (by decide) (ht.row hL) ?_
  rw[cp (by decide)]
  rw[Ci]at he
  exact go.one.Ee (by lia) he tb
 ·by_cases V:ch=60
  ·subst V
   rw[Bx,Nat.add_assoc,hn]at he
   refine JY (bx hL rfl) (by decide) (ht.row hL) ?_
   rw[cp (by decide)]
   exact wQ ht fin hL go he tb
  ·by_cases W:ch=62
   ·subst W
    refine JZ (bx hL rfl) (by decide) (ht.row hL) ?_
    rw[cp (by decide)]
    rw[A0,show n+3=pre.length+1 by lia]at he
    exact go.one.pS he tb
   ·rw[C9 U V W,show n+3=pre.length+1 by lia]at he
    by_cases h0:ch=0
    ·subst h0
     refine Hp (bx hL rfl) (by decide) (ht.row hL) ?_
     rw[lN]
     exact go.one.nX he tb
    ·refine Hr (bx hL rfl) (eR (ht.mem hL).1 (by simp[h0,U,V,W])) (ht.row hL) ?_
     rw[cp h0]
     exact go.one.nX he tb
end
theorem t9(ht:dK c)(fin:jr c Q e0 i0):∀k w pre,w.length<=k->cps c.T=pre++w->GS c Q e0 i0 pre w:=by
 intro k
 induction k with
 |zero=>
  intro w pre hk hL
  cases List.eq_nil_of_length_eq_zero (Nat.le_zero.mp hk)
  exact N8 ht fin (by rw[hL,List.append_nil])
 |succ k ih=>
  intro w pre hk hL
  cases w with
  |nil=>exact ih [] pre (Nat.zero_le _) hL
  |cons ch w1=>
   have go:jH c Q e0 i0 pre (ch::w1):=λseg w' e U=>ih w' (pre++seg) (by
    have:0<seg.length:=List.length_pos_iff.mpr U
    rw[e,List.length_append]at hk;lia) (by rw[hL,e,nK])
   exact⟨Sw ht fin hL go,P1 ht fin hL go,λn=>P2 ht fin hL go,λn=>P3 ht fin hL go,P4 ht fin hL go,λn=>P5 ht fin hL go,λn=>P6 ht fin hL go⟩
end
section
variable{c:RD}{Q:FL×ES->Prop}{n:Nat}{row:List RI}{ls:List Nat}
theorem L3:("script":Str)=ag fw:=by kernel_rfl
theorem Mt.low(hm:Mt c ls):ls.map aI=fw:=by
 obtain⟨nm,V,h2⟩:=hm
 cases V
 rw[<-h2];kernel_rfl
theorem oR(hm:Mt c ls):aX (ag ls)=c.c.nm:=by
 rw[c.hn,L3,<-hm.low];rfl
theorem uF(hl:∀x∈ls,isLet x=true)(hm:Mt c ls):decide (Txt.lower c.c.nm=Txt.lower (ag ls))=true:=by
 refine decide_eq_true ?_
 rw[c.hn,rh (x:=ag ls) λch U=>u_ ch (fj.mpr (hl ch U)),oR hm,c.hn]
 kernel_rfl
theorem qQ(hl:∀x∈ls,isLet x=true)(hn:ls.length<=2000):eU (ag ls)=true:=by
 unfold eU c7
 rw[Bool.and_eq_true,List.all_eq_true]
 refine⟨λx hx=> ?_,Nat.blt_eq.mpr (by rw[de];lia)⟩
 have key:∀x∈bL,ng x=true:=by decide
 exact key x (fj.mpr (hl x hx))
theorem lI(am:aK 2000 row):fits (ay row).length=true/\(ay row).length<=100000:=by
 have:=am.len
 rw[List.length_map]
 exact⟨bq (by lia),by lia⟩
theorem qR{b:Option (List Nat)}{sc:Bool}:ay row++[g_ c.c.nm (b.map ag) sc]=ay (row++[.fin b sc]):=by
 unfold ay;rw[List.map_append,c.hn];rfl
theorem wT:fits (Txt.lower c.c.nm).length=true:=by rw[c.hn];kernel_rfl
structure lW(c:RD)(row:List RI)(ls:List Nat):Prop where
 hl:∀x∈ls,isLet x=true
 hn:ls.length<=2000
 hm:Mt c ls
 am:aK 2000 row
theorem lW.f1(H:lW c row ls):fits (Txt.lower (ag ls)).length=true:=jS (by rw[de];have:=H.hn;lia)
theorem tB{EN BB:Nat}(p:eI EN BB)(H:lW c row ls){sp:Nat}(hs:sp∈cC)(p0:(cps c.T)[n]?=some sp){r:RS}(hr:bm c n r)(kk:Int)(bb:Bool)(fs:List AO):
 tG EN (.obj 12) (some (ag ls)) r (al (ay row) (au kk c.c.nm bb)) fs [] []=some (true,zG 535 (.obj 15) (aw (some (ag ls))) (aj r) (al (ay row) (au kk c.c.nm bb)) fs [] (fH (ag ls))):=
 Ly p hr.ah (hr.more p0).1 (by rw[(hr.more p0).2];exact hs) wT H.f1 (uF H.hl H.hm)
theorem Ef{EN BB:Nat}(p:eI EN BB)(H:lW c row ls)(p0:(cps c.T)[n]?=some 47){r:RS}(hr:bm c n r)(kk:Int)(bb:Bool)(fs:List AO):
 tG EN (.obj 12) (some (ag ls)) r (al (ay row) (au kk c.c.nm bb)) fs [] []=some (true,zG 591 (.obj 15) (aw (some (ag ls))) (aj r) (al (ay row) (au kk c.c.nm bb)) fs [] (fH (ag ls))):=
 Lz p hr.ah (hr.more p0).1 (by rw[(hr.more p0).2];decide) wT H.f1 (uF H.hl H.hm)
variable{EN BB:Nat}(p:eI EN BB)(H:lW c row ls)
include p H
theorem Sx(p0:(cps c.T)[n]?=some 62)(h:Reach c Q 339 (some (ag ls)) (n+1) (row++[.fin none false])):Reach c Q EN (some (ag ls)) n row:=by
 obtain⟨U,hN⟩:=h
 refine⟨U+3,λN hn r hr=> ?_⟩
 obtain⟨N,rfl⟩:∃m,N=m+3:=⟨N-3,by lia⟩
 refine NS gP (lI H.am).1 (oR H.hm) (λkk bb fs=>LA p hr.ah (hr.more p0).1 (by rw[(hr.more p0).2];decide) wT H.f1 (uF H.hl H.hm) (qQ H.hl H.hn)) ?_
 have:=hN N (by lia) _ (hr.aj p0)
 rw[<-qR]at this;exact this
theorem Sy{sp:Nat}(hs:sp∈cC)(p0:(cps c.T)[n]?=some sp)(p1:(cps c.T)[n+1]?=some 62)(h:Reach c Q 339 (some (ag ls)) (n+1+1) (row++[.fin none false])):Reach c Q EN (some (ag ls)) n row:=by
 obtain⟨V,hN⟩:=h
 refine⟨V+5,λN hn r hr=> ?_⟩
 obtain⟨N,rfl⟩:∃m,N=m+5:=⟨N-5,by lia⟩
 have U:=hr.aj p0
 refine NT gP (lI H.am).1 (oR H.hm) U.ah (U.more p1).1 (U.more p1).2 (qQ H.hl H.hn) (tB p H hs p0 hr) ?_
 have:=hN N (by lia) _ (U.aj p1)
 rw[<-qR]at this;exact this
theorem Sz(p0:(cps c.T)[n]?=some 47)(p1:(cps c.T)[n+1]?=some 62)(h:Reach c Q 339 (some (ag ls)) (n+1+1) ((row++[.err 3])++[.fin none true])):Reach c Q EN (some (ag ls)) n row:=by
 obtain⟨V,hN⟩:=h
 refine⟨V+6,λN hn r hr=> ?_⟩
 obtain⟨N,rfl⟩:∃m,N=m+6:=⟨N-6,by lia⟩
 have U:=hr.aj p0
 refine NU gP (lI H.am).2 (oR H.hm) U.ah (U.more p1).1 (U.more p1).2 (qQ H.hl H.hn) (Ef p H p0 hr) ?_
 have:=hN N (by lia) _ (U.aj p1)
 rw[<-qR,<-kz]at this;exact this
theorem SA{sp b:Nat}(hs:sp∈cC)(hb:b=66\/b=98)(p0:(cps c.T)[n]?=some sp)(p1:(cps c.T)[n+1]?=some b)(p2:(cps c.T)[n+1+1]?=some 62)(h:Reach c Q 339 (some (ag ls)) (n+1+1+1) ((row++[.err 2])++[.fin (some [98]) false])):Reach c Q EN (some (ag ls)) n row:=by
 obtain⟨W,hN⟩:=h
 refine⟨W+8,λN hn r hr=> ?_⟩
 obtain⟨N,rfl⟩:∃m,N=m+8:=⟨N-8,by lia⟩
 have U:=hr.aj p0
 have V:=U.aj p1
 refine NW gP (lI H.am).2 (oR H.hm) U.ah (U.more p1).1 (by rw[(U.more p1).2];exact hb) (qQ H.hl H.hn) V.ah (V.more p2).1 (V.more p2).2 (tB p H hs p0 hr) ?_
 have:=hN N (by lia) _ (V.aj p2)
 rw[<-qR,<-kz]at this;exact this
theorem C'{sp:Nat}(hs:sp∈cC)(p0:(cps c.T)[n]?=some sp)(he:n+1=c.T.length)(h:∀r,bm c c.T.length r->fV c.c Q r (ay (row++[.err 4]))):Reach c Q EN (some (ag ls)) n row:=by
 refine⟨6,λN hn r hr=> ?_⟩
 obtain⟨N,rfl⟩:∃m,N=m+6:=⟨N-6,by lia⟩
 have U:=hr.aj p0
 rw[he]at U
 refine NX gP (lI H.am).1 U.ah U.eof U.aO.ah U.aO.eof (tB p H hs p0 hr) ?_
 have:=h _ U.aO.aO
 rw[<-kz]at this;exact this
theorem SD(p0:(cps c.T)[n]?=some 47)(he:n+1=c.T.length)(h:∀r,bm c c.T.length r->fV c.c Q r (ay (row++[.err 5]))):Reach c Q EN (some (ag ls)) n row:=by
 refine⟨6,λN hn r hr=> ?_⟩
 obtain⟨N,rfl⟩:∃m,N=m+6:=⟨N-6,by lia⟩
 have U:=hr.aj p0
 rw[he]at U
 refine NY gP (lI H.am).1 U.ah U.eof U.aO.ah U.aO.eof (Ef p H p0 hr) ?_
 have:=h _ U.aO.aO
 rw[<-kz]at this;exact this
theorem SE{sp b:Nat}(hs:sp∈cC)(hb:b=66\/b=98)(p0:(cps c.T)[n]?=some sp)(p1:(cps c.T)[n+1]?=some b)(he:n+1+1=c.T.length)(h:∀r,bm c c.T.length r->fV c.c Q r (ay (row++[.err 6]))):Reach c Q EN (some (ag ls)) n row:=by
 refine⟨8,λN hn r hr=> ?_⟩
 obtain⟨N,rfl⟩:∃m,N=m+8:=⟨N-8,by lia⟩
 have V:=hr.aj p0
 have U:=V.aj p1
 rw[he]at U
 refine NZ gP (lI H.am).1 V.ah (V.more p1).1 (by rw[(V.more p1).2];exact hb) U.ah U.eof U.aO.ah U.aO.eof (tB p H hs p0 hr) ?_
 have:=h _ U.aO.aO
 rw[<-kz]at this;exact this
end
inductive Tail:List Nat->List RI->List Nat->Prop
 |gt {w:List Nat}:Tail (62::w) [.fin none false] w
 |sp {w:List Nat}:Tail (32::62::w) [.fin none false] w
 |sl {w:List Nat}:Tail (47::62::w) [.err 3, .fin none true] w
 |nb {b:Nat} {w:List Nat} (hb:b=66\/b=98):Tail (10::b::62::w) [.err 2, .fin (some [98]) false] w
inductive Cut:List Nat->Nat->Prop
 |sp:Cut [32] 4
 |nl:Cut [10] 4
 |sl:Cut [47] 5
 |nb {b:Nat} (hb:b=66\/b=98):Cut [10,b] 6
noncomputable def bR(ls t:List Nat):List Nat:=60::47::(ls++t)
inductive gy:List Nat->List RI->List RI->Prop
 |fin {w:List Nat} {R:List RI} {i:Bool} (h:∀c:RD,sc c none w 0=(w.length,i)):gy w R (feed R w++cond i [.err 1] [])
 |tag {pre ls t r:List Nat} {R its out:List RI} (h:∀c:RD,sc c none (pre++bR ls t) 0=(pre.length,false)) (hl:∀x∈ls,isLet x=true) (ht:Tail t its r) (hr:gy r (feed R pre++its) out):gy (pre++bR ls t) R out
 |cut {pre ls t:List Nat} {R:List RI} {e:Nat} (h:∀c:RD,sc c none (pre++bR ls t) 0=(pre.length,false)) (hl:∀x∈ls,isLet x=true) (ht:Cut t e):gy (pre++bR ls t) R (feed R pre++[.err e])
theorem Ar{ls U:List Nat}{a b:Nat}{t X:List Nat}(V:∀x∈ls,isLet x=true)(h2:∀x∈U,isLet x=true)(ha:isLet a=false)(hb:isLet b=false)(e:ls++a::t=U++b::X):ls=U/\a=b/\t=X:=by
 induction ls generalizing U with
 |nil=>cases U with
  |nil=>injection e with e1 e2;exact⟨rfl,e1,e2⟩
  |cons x U=>
   injection e with e1 e2
   rw[e1,h2 x (.head _)]at ha;cases ha
 |cons x ls ih=>cases U with
  |nil=>
   injection e with e1 e2
   rw[<-e1,V x (.head _)]at hb;cases hb
  |cons y U=>
   injection e with e1 e2
   obtain⟨k1,k2,Y⟩:=ih (λz W=>V z (.tail _ W)) (λz W=>h2 z (.tail _ W)) e2
   exact⟨by rw[e1,k1],k2,Y⟩
theorem Tail.head{t r:List Nat}{its:List RI}(h:Tail t its r):∃a U,t=a::U/\isLet a=false:=by
 cases h<;>exact⟨_,_,rfl,by decide⟩
theorem Cut.head{t:List Nat}{e:Nat}(h:Cut t e):∃a U,t=a::U/\isLet a=false:=by
 cases h<;>exact⟨_,_,rfl,by decide⟩
theorem Tail.drop{t r:List Nat}{its:List RI}(h:Tail t its r):∃u,t=u++r/\1<=u.length:=by
 cases h
 ·exact⟨[62],rfl,by decide⟩
 ·exact⟨[32,62],rfl,by decide⟩
 ·exact⟨[47,62],rfl,by decide⟩
 ·exact⟨[10,b,62],rfl,by simp⟩
theorem Tail.its{t r:List Nat}{its:List RI}(h:Tail t its r):its.length<=2/\∀q,RI.text q∉its:=by
 cases h<;>exact⟨by decide,λq U=>by simp at U⟩
theorem aK.its{n:Nat}{row its:List RI}(h:aK n row)(h2:its.length<=2)(h3:∀q,RI.text q∉its):aK (n+1) (row++its):=
 ⟨by rw[List.length_append];have:=h.len;lia,λq U=>(List.mem_append.mp U).elim (λU=>by have:=h.txt q U;lia) λU=>absurd U (h3 q)⟩
section
variable{c:RD}{Q:FL×ES->Prop}
noncomputable def RD.on(c:RD)(m:Nat)(R:List RI)(h:c.b0+m<=c.c.T.length):RD:=⟨c.c,c.b0+m,R,h,c.hn⟩
theorem J2{m:Nat}{R:List RI}{h:c.b0+m<=c.c.T.length}{st:Nat}{tb:Option Str}(hr:Reach (c.on m R h) Q st tb 0 R):Reach c Q st tb m R:=by
 obtain⟨U,hN⟩:=hr
 exact⟨U,λN hn r V=>hN N hn r ⟨V.g⟩⟩
theorem L4{m:Nat}{R:List RI}{h:c.b0+m<=c.c.T.length}:cps (c.on m R h).T=(cps c.T).drop m:=(List.drop_drop ..).symm
theorem As:pH c:=λnm h=>by cases h;exact⟨by decide,by decide⟩
noncomputable def By(c:RC)(Q:FL×ES->Prop)(out:List RI):Prop:=∀r,GoodR c.T c.T.length r->fV c Q r (ay out)
theorem N9{w:List Nat}{R out:List RI}(h:gy w R out):∀{c:RD},cps c.T=w->c.R0=R->dK c->By c.c Q out->∀tb,Reach c Q 339 tb 0 R:=by
 induction h with
 |@fin w R i h=>
  intro c hw U ht Y tb
  have V:∀r,bm c c.T.length r->fV c.c Q r (ay (feed R w++cond i [.err 1] [])):=λr hr=>Y r hr.toEnd
  have am:rowOf c (cps c.T)=feed R w:=by unfold rowOf;rw[hw,U]
  have fin:jr c Q w.length i:=by
   refine⟨λhi _ tb=> ?_,λhi _ tb=> ?_,λhi _ tb=> ?_,λen _ pre ls ch w' e1 e2=> ?_⟩
   ·subst hi;rw[am];refine GN λr hr=> ?_
    have:=V r hr
    rw[show cond false [RI.err 1] []=[]from rfl,List.append_nil]at this;exact this
   ·subst hi;rw[am];refine zJ λr hr=> ?_
    have:=V r hr
    rw[show cond false [RI.err 1] []=[]from rfl,List.append_nil]at this;exact this
   ·subst hi;rw[am];exact zJ λr hr=>V r hr
   ·rw[hw]at e1
    have:=congrArg List.length e1
    rw[List.length_append]at this
    simp at this;lia
  have:=(t9 ht fin w.length w [] (Nat.le_refl _) hw).S (h c) tb
  have e:rowOf c []=R:=U
  rw[e]at this;exact this
 |@tag pre ls t r R its out h hl W hr ih=>
  intro c hw U ht Y tb
  obtain⟨a,P,K,ha⟩:=W.head
  obtain⟨u,X,B⟩:=W.drop
  have hlen:(pre++bR ls t).length=pre.length+2+ls.length+t.length:=by simp[bR];lia
  have g:=mH (c:=c)
  have Z:c.T.length=pre.length+2+ls.length+t.length:=by rw[<-bw,hw,hlen]
  have L:ls.length<=2000:=by have:=ht.len;rw[hw,hlen]at this;lia
  have key:∀m J,m=pre.length+2+ls.length+u.length->J=its->∀tb,Reach c Q 339 tb m (rowOf c pre++J):=λm J em q tb=>by
   have tl:t.length=u.length+r.length:=by rw[X,List.length_append]
   have hb:c.b0+m<=c.c.T.length:=by lia
   subst q
   have e0:rowOf c pre=feed R pre:=by unfold rowOf;rw[U]
   rw[e0]
   refine J2 (h:=hb) ?_
   have C:cps (c.on m (feed R pre++J) hb).T=r:=by
    rw[L4,hw,em,X]
    have e:pre++bR ls (u++r)=(pre++60::47::(ls++u))++r:=by simp[bR]
    rw[e,List.drop_left' (by simp;lia)]
   refine ih C rfl ⟨?_, ?_,ht.len0,As⟩ Y tb
   ·intro ch A
    rw[C]at A
    exact ht.sg ch (by rw[hw,X];simp[bR,A])
   ·refine aK.mono (aK.its (U▸zE ht.r0 pre) W.its.1 W.its.2) ?_
    show _<=c.b0+m
    lia
  have fin:jr c Q pre.length false:=by
   refine⟨λ_ e=> ?_,λ_ e=> ?_,(λhi=>by cases hi),λen N y G ch w' e1 e2 _ z I hs hm=> ?_⟩
   ·rw[hw,hlen]at e;lia
   ·rw[hw,hlen]at e;lia
   ·rw[hw]at e1
    obtain⟨k1,k2⟩:=List.append_inj e1 e2.symm
    have k2:ls++t=G++ch::w':=by unfold bR at k2;injection k2 with _ k2;injection k2
    subst k1
    rw[K]at k2
    obtain⟨D,E,F⟩:=Ar hl I ha (qy hs) k2
    subst D;subst E;subst F
    have M:cps c.T=(pre++60::47::ls)++t:=by rw[hw];simp[bR]
    have O:pre.length+2+ls.length=(pre++60::47::ls).length:=by simp;lia
    have at_:∀k x,t[k]?=some x->(cps c.T)[pre.length+2+ls.length+k]?=some x:=λk x hx=>by
     rw[M,O,List.getElem?_append_right (Nat.le_add_right ..),Nat.add_sub_cancel_left];exact hx
    have H:lW c (rowOf c pre) ls:=⟨hl,L,hm,ht.row (w:=bR ls t) hw⟩
    have done:∀{BB:Nat},eI en BB->Reach c Q en (some (ag ls)) (pre.length+2+ls.length) (rowOf c pre):=λp=>by
     cases W with
     |gt=>cases j:u with
      |nil=>rw[j]at B;simp at B
      |cons x o=>
       refine Sx p H (at_ 0 62 rfl) (key _ _ ?_ rfl _)
       have:(62::r).length=u.length+r.length:=by rw[X,List.length_append]
       simp at this;lia
     |sp=>
      refine Sy p H (sp:=32) (by decide) (at_ 0 32 rfl) (at_ 1 62 rfl) (key _ _ ?_ rfl _)
      have:(32::62::r).length=u.length+r.length:=by rw[X,List.length_append]
      simp at this;lia
     |sl=>
      refine Sz p H (at_ 0 47 rfl) (at_ 1 62 rfl) ?_
      rw[List.append_assoc]
      refine key _ _ ?_ rfl _
      have:(47::62::r).length=u.length+r.length:=by rw[X,List.length_append]
      simp at this;lia
     |@nb b _ hb=>
      refine SA p H (sp:=10) (b:=b) (by decide) hb (at_ 0 10 rfl) (at_ 1 b rfl) (at_ 2 62 rfl) ?_
      rw[List.append_assoc]
      refine key _ _ ?_ rfl _
      have:(10::b::62::r).length=u.length+r.length:=by rw[X,List.length_append]
      simp at this;lia
    rcases N with rfl|rfl
    ·exact done .c
    ·exact done .d
  have:=(t9 ht fin (pre++bR ls t).length (pre++bR ls t) [] (Nat.le_refl _) hw).S (h c) tb
  have e:rowOf c []=R:=U
  rw[e]at this;exact this
 |@cut pre ls t R e h hl W=>
  intro c hw U ht Y tb
  obtain⟨a,P,K,ha⟩:=W.head
  have hlen:(pre++bR ls t).length=pre.length+2+ls.length+t.length:=by simp[bR];lia
  have Z:c.T.length=pre.length+2+ls.length+t.length:=by rw[<-bw,hw,hlen]
  have L:ls.length<=2000:=by have:=ht.len;rw[hw,hlen]at this;lia
  have V:∀r,bm c c.T.length r->fV c.c Q r (ay (rowOf c pre++[.err e])):=λr hr=>by
   have:=Y r hr.toEnd
   unfold rowOf;rw[U];exact this
  have fin:jr c Q pre.length false:=by
   refine⟨λ_ e=> ?_,λ_ e=> ?_,(λhi=>by cases hi),λen N y G ch w' e1 e2 _ z I hs hm=> ?_⟩
   ·rw[hw,hlen]at e;lia
   ·rw[hw,hlen]at e;lia
   ·rw[hw]at e1
    obtain⟨k1,k2⟩:=List.append_inj e1 e2.symm
    have k2:ls++t=G++ch::w':=by unfold bR at k2;injection k2 with _ k2;injection k2
    subst k1
    rw[K]at k2
    obtain⟨D,E,F⟩:=Ar hl I ha (qy hs) k2
    subst D;subst E;subst F
    have M:cps c.T=(pre++60::47::ls)++t:=by rw[hw];simp[bR]
    have O:pre.length+2+ls.length=(pre++60::47::ls).length:=by simp;lia
    have at_:∀k x,t[k]?=some x->(cps c.T)[pre.length+2+ls.length+k]?=some x:=λk x hx=>by
     rw[M,O,List.getElem?_append_right (Nat.le_add_right ..),Nat.add_sub_cancel_left];exact hx
    have H:lW c (rowOf c pre) ls:=⟨hl,L,hm,ht.row (w:=bR ls t) hw⟩
    have done:∀{BB:Nat},eI en BB->Reach c Q en (some (ag ls)) (pre.length+2+ls.length) (rowOf c pre):=λp=>by
     cases W with
     |sp=>exact C' p H (sp:=32) (by decide) (at_ 0 32 rfl) Z.symm V
     |nl=>exact C' p H (sp:=10) (by decide) (at_ 0 10 rfl) Z.symm V
     |sl=>exact SD p H (at_ 0 47 rfl) Z.symm V
     |@nb b hb=>exact SE p H (sp:=10) (b:=b) (by decide) hb (at_ 0 10 rfl) (at_ 1 b rfl) Z.symm V
    rcases N with rfl|rfl
    ·exact done .c
    ·exact done .d
  have:=(t9 ht fin (pre++bR ls t).length (pre++bR ls t) [] (Nat.le_refl _) hw).S (h c) tb
  have e:rowOf c []=R:=U
  rw[e]at this;exact this
end
theorem E4{T:DT (FL×ES)}{P:U×ES->Prop}(h:T.Holds λr=>∃es rest,r.2.fs= .frame es::rest/\((∃v,r.1= .ret v/\P (v,⟨rest,r.2.os⟩))\/(r.1= .next/\P (.none,⟨rest,r.2.os⟩)))):(finish T).Holds P:=by
 unfold finish
 refine DT.lD (DT.lD (DT.Holds.mono (λr hr=> ?_) h))
 obtain⟨es,rest,e,hr⟩:=hr
 obtain⟨fl,fs,os⟩:=r
 dsimp only at e hr
 subst e
 rcases hr with⟨v,rfl,hp⟩|⟨rfl,hp⟩
 ·exact hp
 ·exact hp
noncomputable def QP(P:U×ES->Prop):FL×ES->Prop:=λr=>(gw jE.St [iH] r).Holds λr=>∃es rest,r.2.fs= .frame es::rest/\((∃v,r.1= .ret v/\P (v,⟨rest,r.2.os⟩))\/(r.1= .next/\P (.none,⟨rest,r.2.os⟩)))
theorem L5{m:Nat}:jF m iH=jE.St iH:=by kernel_rfl
theorem L6{m:Nat}:gw (jF m) [iH]=gw jE.St [iH]:=by
 funext r
 obtain⟨fl,z⟩:=r
 cases fl with
 |next=>
  show aB (jF m) [iH] z=aB jE.St [iH] z
  rw[ik,ik,L5];rfl
 |_=>rfl
theorem Hu{α β:Type}{G:DT α}{k:α->DT β}{P:β->Prop}(h:G.Holds λa=>(k a).Holds P):((DT.test true G .fail).bind k).Holds P:=wG (DT.lD h)
structure sF(H:List U->EM U)(args:List U)(P:U×ES->Prop):Prop where
 h:(H args ⟨[],[]⟩).Holds P
noncomputable abbrev kY(m:Nat)(args:List U)(P:U×ES->Prop):Prop:=sF (lS S1 dk jD 3000 40 (λ_=>eJ) m 820) args P
theorem L7{H:List U->EM U}{args:List U}{P:U×ES->Prop}{f:Stmt->EM FL}{a b:List Stmt}{s1 s2:Stmt}{z W:ES}{G:DT (FL×ES)}(X:H args ⟨[],[]⟩=finish (aB f b z))(hb:b=a++[s1,s2])(V:(aB f a z).eval=some (FL.next,W))(h2:f s1 W= .test true G .fail)
 (h3:G.Holds λr=>(gw f [s2] r).Holds λr=>∃es rest,r.2.fs= .frame es::rest/\((∃v,r.1= .ret v/\P (v,⟨rest,r.2.os⟩))\/(r.1= .next/\P (.none,⟨rest,r.2.os⟩)))):sF H args P:=by
 subst hb
 refine⟨?_⟩
 rw[X]
 refine E4 ?_
 rw[tZ]
 refine DT.lD (DT.du V ?_)
 show(aB f [s1,s2] W).Holds _
 rw[ik,h2]
 exact Hu h3
theorem L8{T:Str}{size:Int}{P:U×ES->Prop}{m:Nat}{W:ES}{G:DT (FL×ES)}(V:(aB (jF m) (wJ.take 5) ⟨[.frame (sC T size)],[]⟩).eval=some (FL.next,W))(h2:jF m forR W= .test true G .fail)(h3:G.Holds (QP P)):
 kY m [.str T, .int size] P:=
 L7 (H:=lS S1 dk jD 3000 40 (λ_=>eJ) m 820) LX LW V h2 (by rw[L6];exact h3)
noncomputable def tC(T:Str)(size:Int):RD:=⟨⟨T,"script",size⟩,0,[],Nat.zero_le _,rfl⟩
theorem P7{T:Str}{size:Int}:cps (tC T size).T=cps T:=rfl
theorem Hv{T:Str}{size:Int}{P:U×ES->Prop}(hs:size=((size.toNat:Nat):Int))(ht:dK (tC T size))(h:Reach (tC T size) (QP P) 339 none 0 []):
 ∃m0,∀m,m0<=m->kY m [.str T, .int size] P:=by
 obtain⟨W,hN⟩:=h
 have hT:T.length<=2000:=ht.len0
 have X:c7 T=true:=List.all_eq_true.mpr λx hx=>by
  have:=(ht.sg x hx).1
  unfold ng
  exact List.any_eq_true.mpr ⟨x,this,Nat.beq_refl x⟩
 have V:bj (mn T) 0 0 0:=⟨X,hT,rfl,rfl,rfl,Nat.le_refl _,Nat.le_refl _,Nat.zero_le _,by rw[Ai (Nat.le_refl _)];rfl⟩
 have Y:GoodR T 0 (mn T):=⟨rfl,0,0,0,V,rfl,rfl,rfl⟩
 have g1:GoodR T 0 (bc (mn T) size):=by rw[hs];exact Y.read ⟨0,0,V,rfl⟩ _
 have Z:dz (mn T) size=true:=by rw[hs];exact V.dz
 exact⟨W,λm hm=>L8 (PR (m:=m) Z) PS (JC (hN m hm _ ⟨g1⟩))⟩
noncomputable def Da(b:Option (List Nat)):List PyData:=match b with|none=>[]|some b=>[.list [.str (ag b), .str ""]]
noncomputable def nL:RI->PyData
 | .text p=> .tuple [.str "text", .str (ag p)]
 | .err e=> .tuple [.str "error", .str (eZ e)]
 | .fin b sc=> .tuple [.str "end", .str "script", .list (Da b), .bool sc]
noncomputable def Db(p:Nat×Nat):PyData:= .tuple [.int ((p.1:Int)+1), .int (p.2:Int)]
noncomputable def outD(T:Str)(out:List RI):PyData:= .tuple [.list (out.map nL),Db (lc (cps T)), .none]
noncomputable def PD(d:PyData):U×ES->Prop:=λo=>∃k,cS o.2.os k o.1=some d
section
variable{os:List AO}{row:List RI}{tail:List U}{ds:List PyData}
theorem gj{n:Nat}{x:U}{xs:List U}{d:PyData}{ds:List PyData}(h:cS os n x=some d)(h':d9 os n xs=some ds):d9 os (n+1) (x::xs)=some (d::ds):=by
 show pc (·::·) (cS os n x) (d9 os n xs)=_
 rw[h,h'];rfl
theorem uk{n:Nat}{xs:List U}{ds:List PyData}(h:d9 os n xs=some ds):cS os (n+1) (.tup xs)=some (.tuple ds):=congrArg (Option.map PyData.tuple) h
theorem FA{row:List RI}{k:Nat}(h:d9 os (k+8) tail=some ds):d9 os (k+8+row.length) (ay row++tail)=some (row.map nL++ds):=by
 induction row with
 |nil=>exact h
 |cons a row ih=>
  refine gj (n:=k+8+row.length) ?_ ih
  rw[Nat.add_right_comm k 8]
  cases a with
  |fin b sc=>cases b<;>rfl
  |_=>rfl
theorem J3{lr:Nat}{xs:List U}{rs:List PyData}{K:Nat}{a b:U}{W db:PyData}(V:os[lr]?=some (.list xs))(h2:d9 os K xs=some rs)(ha:cS os K a=some W)(hb:cS os (K-1) b=some db)(X:3<=K):
 cS os (K+3) (.tup [.obj lr,a,b])=some (.tuple [.list rs,W,db]):=by
 obtain⟨K,rfl⟩:=Nat.exists_eq_add_of_le' X
 refine uk (gj ?_ (gj ha (gj hb rfl)))
 show(match os[lr]?with
  |some (.list xs)=>(d9 os (K+3) xs).map PyData.list
  |_=>none)=_
 rw[V]
 exact congrArg (Option.map PyData.list) h2
theorem L9{T:Str}{n:Nat}{r:RS}(h:GoodR T n r):sB r= .tup [.int (((lc ((cps T).take n)).1:Nat)+1), .int ((lc ((cps T).take n)).2:Nat)]:=by
 obtain⟨p,s,o,V,h2,h3,h4⟩:=h.ex
 have:=pos_at V h.hT h3 h4 V.os
 unfold sB
 rw[V.ho,this.1,this.2,h2]
theorem Hw{T:Str}{n k:Nat}{r:RS}(h:GoodR T n r):cS os (k+4) (sB r)=some (Db (lc ((cps T).take n))):=by
 rw[L9 h];rfl
end
theorem L_{P:U×ES->Prop}{v:U}{z:ES}{es:List (Str×U)}{os:List AO}(he:(jE.St iH z).eval=some (.ret v,⟨[.frame es],os⟩))(h:P (v,⟨[],os⟩)):QP P (.next,z):=by
 show(aB jE.St [iH] z).Holds _
 rw[ik]
 exact DT.lD (DT.du he ⟨es,[],rfl, .inl ⟨v,rfl,h⟩⟩)
theorem L'{c:RC}{row:List RI}:By c (QP (PD (outD c.T row))) row:=λr hr so st more tk ds=>by
 have U:(cps c.T).take c.T.length=cps c.T:=List.take_of_length_le (by rw[bw];exact Nat.le_refl _)
 refine L_ (PI hr.ah hr.eof) ⟨(0+8+row.length)+3,J3 (lr:=11) (xs:=ay row) rfl ?_ ?_ ?_ (by lia)⟩
 ·have:=FA (os:=aN st (.obj 12) more (aO r) (al (ay row) tk) [] ds) (tail:=[]) (ds:=[]) (row:=row) (k:=0) rfl
  rw[List.append_nil,List.append_nil]at this
  exact this
 ·rw[show 0+8+row.length=(row.length+4)+4 by lia,Hw hr,U]
 ·rw[show 0+8+row.length-1=(row.length+6)+1 by lia];rfl
theorem Ma{T:Str}{size:Int}{out:List RI}(hs:size=((size.toNat:Nat):Int))(ht:dK (tC T size))(h:gy (cps T) [] out):∃m0,∀m,m0<=m->kY m [.str T, .int size] (PD (outD T out)):=
 Hv hs ht (N9 h P7 rfl ht L' none)
noncomputable def aS(x:Str)(a b:Int):Str:=aV x (dZ x.length a) (dZ x.length b)
noncomputable def eV(h w:List Nat):Bool:=decide (w.take h.length=h)&&(match w[h.length]?with|some ch=>cU ch|none=>false)
theorem qY{x:Str}{a b:Nat}:aS x (a:Int) (b:Int)=ag (((cps x).take (min b x.length)).drop (min a x.length)):=by
 unfold aS dZ
 rw[if_neg (by lia),if_neg (by lia),show(a:Int).toNat=a by lia,show(b:Int).toNat=b by lia];rfl
theorem uG{a b:List Nat}(h:ag a=ag b):a=b:=by
 have:=congrArg (λs:Str=>s.cps.toList) h
 simpa[ag]using this
theorem N_(x:Str):x=ag (cps x):=rfl
theorem Mb{x y:Str}{k:Nat}(hk:k<=x.length):decide (aS x (k:Int) ((k:Int)+(y.length:Nat))=y)=decide (((cps x).drop k).take (cps y).length=cps y):=by
 rw[show((k:Int)+(y.length:Nat))=((k+y.length:Nat):Int) by lia,qY,Bool.eq_iff_iff,decide_eq_true_iff,decide_eq_true_iff,Nat.min_eq_left hk]
 have e:((cps x).take (min (k+y.length) x.length)).drop k=((cps x).drop k).take (cps y).length:=by
  rw[bw,List.take_drop]
  congr 1
  rw[<-bw (x:=x),<-List.take_take,List.take_length]
 rw[e]
 constructor
 ·intro h
  exact uG (h.trans (N_ y))
 ·intro h
  rw[h];rfl
theorem Au{x:Str}{k:Nat}:mh (aS x (k:Int) ((k:Int)+1)) [" ","\t","\n","/",">"]=(match(cps x)[k]?with|some ch=>cU ch|none=>false):=by
 rw[show((k:Int)+1)=((k+1:Nat):Int) by lia,qY]
 cases q:(cps x)[k]?with
 |none=>
  have:=List.getElem?_eq_none_iff.mp q
  rw[bw]at this
  rw[List.drop_eq_nil_of_le (by rw[List.length_take];lia)]
  rfl
 |some ch=>
  have U:=(List.getElem?_eq_some_iff.mp q).1
  rw[bw]at U
  have e:((cps x).take (min (k+1) x.length)).drop (min k x.length)=[ch]:=by
   rw[Nat.min_eq_left (by lia),Nat.min_eq_left (by lia),List.take_add_one,q,List.drop_left' (by rw[List.length_take,bw];lia)]
   rfl
  rw[e]
  show(decide (ag [ch]=" ")||(decide (ag [ch]="\t")||(decide (ag [ch]="\n")||(decide (ag [ch]="/")||(decide (ag [ch]=">")||false)))))=cU ch
  have d:∀(n:Nat) (s:Str),s=ag [n]->decide (ag [ch]=s)=Nat.beq ch n:=λn s hs=>by
   rw[hs,Bool.eq_iff_iff,decide_eq_true_iff,Nat.beq_eq]
   constructor
   ·intro h;have:=uG h;injection this
   ·rintro rfl;rfl
  rw[d 32 " " (by kernel_rfl),d 9 "\t" (by kernel_rfl),d 10 "\n" (by kernel_rfl),d 47 "/" (by kernel_rfl),d 62 ">" (by kernel_rfl),Bool.or_false]
  rfl
noncomputable def UZ(l:List Nat):List U:=l.map λ(k:Nat)=>U.int (k:Int)
theorem qZ{x y:Str}{k n:Nat}(hn:y.length=n)(hk:k<=x.length):decide (aS x (k:Int) ((k:Int)+(n:Int))=y)=decide (((cps x).drop k).take n=cps y):=by
 subst hn
 have:=Mb (x:=x) (y:=y) hk
 rw[bw (x:=y)]at this;exact this
noncomputable def iJ:List Nat:=[60,115,99,114,105,112,116]
noncomputable def iK:List Nat:=[60,47,115,99,114,105,112,116]
structure TS where
 z:Nat
 fr:Int
 tu:List (Int×Int)
 ta:List (Int×Int)
noncomputable def fq(x:Str)(k:Nat):Int:=Txt.find3 x ">" (k:Int)+1
noncomputable def iz(x:Str)(k:Nat)(t:TS):TS:=
 if(k:Int)<t.fr then t
 else if eV iK ((cps x).drop k)=true then(if t.z<2 then⟨0,fq x k,t.tu++[(fq x k,0)],t.ta++[((k:Int),fq x k)]⟩else⟨1,t.fr,t.tu++[((k:Int)+9,1)],t.ta⟩)
 else if eV iJ ((cps x).drop k)=true/\t.z=1 then⟨2,t.fr,t.tu++[((k:Int)+8,2)],t.ta⟩
 else if t.z≠0/\((cps x).drop k).take 3=[45,45,62]then⟨0,t.fr,t.tu++[((k:Int)+3,0)],t.ta⟩
 else if t.z=0/\((cps x).drop k).take 4=[60,33,45,45]then⟨1,t.fr,t.tu++[((k:Int)+4,1)],t.ta⟩
 else t
noncomputable def tS(x:Str):Nat->TS
 |0=>⟨0,0,[(0,0)],[]⟩
 |n+1=>iz x n (tS x n)
noncomputable def gr(l:List (Int×Int)):List U:=l.map λp=> .tup [.int p.1, .int p.2]
theorem jR{l:List (Int×Int)}{a b:Int}:gr l++[.tup [.int a, .int b]]=gr (l++[(a,b)]):=by unfold gr;rw[List.map_append];rfl
theorem y7{l:List (Int×Int)}:(gr l).length=l.length:=List.length_map ..
structure pK(n:Nat)(t:TS):Prop where
 z:t.z<=2
 tu:t.tu.length<=n+1
 ta:t.ta.length<=n
theorem J4{x:Str}{n:Nat}{t:TS}(h:pK n t):pK (n+1) (iz x n t):=by
 have V:=h.z;have h2:=h.tu;have h3:=h.ta
 unfold iz
 split
 ·exact⟨V,by lia,by lia⟩
 ·split
  ·split
   ·exact⟨Nat.le_of_ble_eq_true rfl,by simp;lia,by simp;lia⟩
   ·exact⟨Nat.le_of_ble_eq_true rfl,by simp;lia,by dsimp only;lia⟩
  ·split
   ·exact⟨Nat.le_of_ble_eq_true rfl,by simp;lia,by dsimp only;lia⟩
   ·split
    ·exact⟨Nat.le_of_ble_eq_true rfl,by simp;lia,by dsimp only;lia⟩
    ·split
     ·exact⟨Nat.le_of_ble_eq_true rfl,by simp;lia,by dsimp only;lia⟩
     ·exact⟨V,by lia,by lia⟩
theorem v9{x:Str}:∀n,pK n (tS x n)
 |0=>⟨Nat.le_of_ble_eq_true rfl,Nat.le_of_ble_eq_true rfl,Nat.le_of_ble_eq_true rfl⟩
 |n+1=>J4 (v9 n)
noncomputable def fx:Stmt:=aH (aW 808).body 4
noncomputable abbrev lz(n:Nat):IH:=bM S1 ge 3000 n (aW 808).scope []
noncomputable def eG(i:Nat):EM FL:=(lz 39).St (aH (dY fx) i)
noncomputable def Eg(x:Str)(z fr:Int)(more:List (Str×U)):List (Str×U):=("low", .str x)::("turns", .obj 0)::("tags", .obj 1)::("zone", .int z)::("free", .int fr)::more
noncomputable def m0(m:Option (Int×Bool×Bool)):List (Str×U):=match m with|none=>[]|some (k,o,s)=>[("k", .int k),("opened", .bool o),("shut", .bool s)]
noncomputable def m1(k:Int)(m:Option (Bool×Bool)):List (Str×U):=("k", .int k)::match m with|none=>[]|some (o,s)=>[("opened", .bool o),("shut", .bool s)]
noncomputable def m2(k:Int)(o:Bool)(m:Option Bool):List (Str×U):=("k", .int k)::("opened", .bool o)::match m with|none=>[]|some s=>[("shut", .bool s)]
noncomputable def m3(k:Int)(o s:Bool):List (Str×U):=[("k", .int k),("opened", .bool o),("shut", .bool s)]
noncomputable def zT(x:Str)(z fr:Int)(more:List (Str×U))(tu ta:List U):ES:=⟨[.frame (Eg x z fr more)],[.list tu, .list ta]⟩
noncomputable def ql:U->EM Unit:=bv S1 (aW 808).scope [] (lz 39).E (ni fx)
noncomputable def rI:List Str:=[" ","\t","\n","/",">"]
section
variable{x:Str}{z fr k:Int}{o s:Bool}{tu ta:List U}
theorem P9{m:Option (Int×Bool×Bool)}:ql (.int k) (zT x z fr (m0 m) tu ta)= .leaf ((),zT x z fr (m1 k (m.map (·.2))) tu ta):=by cases m<;>kernel_rfl
theorem SH{m:Option (Bool×Bool)}:eG 0 (zT x z fr (m1 k m) tu ta)= .test (decide (k<fr)) (.leaf (FL.cont,zT x z fr (m1 k m) tu ta)) (.leaf (FL.next,zT x z fr (m1 k m) tu ta)):=by cases m<;>kernel_rfl
theorem P_{m:Option (Bool×Bool)}:(eG 1 (zT x z fr (m1 k m) tu ta)).run [true,true,true]=some ([fits x.length,decide (aS x k (k+7)="<script"),fits x.length],(FL.next,zT x z fr (m2 k (mh (aS x (k+7) (k+8)) rI) (m.map (·.2))) tu ta)):=by cases m<;>kernel_rfl
theorem P'{m:Option (Bool×Bool)}:(eG 1 (zT x z fr (m1 k m) tu ta)).run [true,false]=some ([fits x.length,decide (aS x k (k+7)="<script")],(FL.next,zT x z fr (m2 k (decide (aS x k (k+7)="<script")) (m.map (·.2))) tu ta)):=by cases m<;>kernel_rfl
theorem Qa{m:Option Bool}:(eG 2 (zT x z fr (m2 k o m) tu ta)).run [true,true,true]=some ([fits x.length,decide (aS x k (k+8)="</script"),fits x.length],(FL.next,zT x z fr (m3 k o (mh (aS x (k+8) (k+9)) rI)) tu ta)):=by cases m<;>kernel_rfl
theorem Qb{m:Option Bool}:(eG 2 (zT x z fr (m2 k o m) tu ta)).run [true,false]=some ([fits x.length,decide (aS x k (k+8)="</script")],(FL.next,zT x z fr (m3 k o (decide (aS x k (k+8)="</script"))) tu ta)):=by cases m<;>kernel_rfl
noncomputable abbrev AR(x:Str)(k:Int):Bool:=decide (aS x k (k+3)="-->")
noncomputable abbrev OP(x:Str)(k:Int):Bool:=decide (aS x k (k+4)="<!--")
variable(V:fits tu.length=true)(h2:fits ta.length=true)(h3:fits x.length=true)
include V h2 in
theorem Qc:(eG 3 (zT x 0 fr (m3 k o true) tu ta)).eval=some (FL.next,zT x 0 (Txt.find3 x ">" k+1) (m3 k o true) (tu++[.tup [.int (Txt.find3 x ">" k+1), .int 0]]) (ta++[.tup [.int k, .int (Txt.find3 x ">" k+1)]])):=
 DT.aQ (cs:=[true,true,true,true,true,true,true]) (bs:=[true,true,true,true,fits ta.length,true,fits tu.length]) (by kernel_rfl) (by rw[V,h2])
include V h2 in
theorem Qd:(eG 3 (zT x 1 fr (m3 k o true) tu ta)).eval=some (FL.next,zT x 0 (Txt.find3 x ">" k+1) (m3 k o true) (tu++[.tup [.int (Txt.find3 x ">" k+1), .int 0]]) (ta++[.tup [.int k, .int (Txt.find3 x ">" k+1)]])):=
 DT.aQ (cs:=[true,true,true,true,true,true,true]) (bs:=[true,true,true,true,fits ta.length,true,fits tu.length]) (by kernel_rfl) (by rw[V,h2])
include V in
theorem Qe:(eG 3 (zT x 2 fr (m3 k o true) tu ta)).eval=some (FL.next,zT x 1 fr (m3 k o true) (tu++[.tup [.int (k+9), .int 1]]) ta):=
 DT.aQ (cs:=[true,false,false,true,true,true]) (bs:=[true,false,false,true,true,fits tu.length]) (by kernel_rfl) (by rw[V])
include V in
theorem Qf:(eG 3 (zT x 1 fr (m3 k true false) tu ta)).eval=some (FL.next,zT x 2 fr (m3 k true false) (tu++[.tup [.int (k+8), .int 2]]) ta):=
 DT.aQ (cs:=[false,false,false,true,true,true,true,true]) (bs:=[false,false,false,true,true,true,true,fits tu.length]) (by kernel_rfl) (by rw[V])
include V h3 in
theorem Qg:(eG 3 (zT x 0 fr (m3 k o false) tu ta)).eval=some (FL.next,cond (OP x k) (zT x 1 fr (m3 k o false) (tu++[.tup [.int (k+4), .int 1]]) ta) (zT x 0 fr (m3 k o false) tu ta)):=by
 cases o<;>cases q:OP x k
 ·exact DT.aQ (cs:=[false,false,false,false,false,false,false,true,true,false,false]) (bs:=[false,false,false,false,false,false,false,true,fits x.length,OP x k,false]) (by kernel_rfl) (by rw[h3,q])
 ·exact DT.aQ (cs:=[false,false,false,false,false,false,false,true,true,true,true,true,true]) (bs:=[false,false,false,false,false,false,false,true,fits x.length,OP x k,true,true,fits tu.length]) (by kernel_rfl) (by rw[h3,q,V])
 ·exact DT.aQ (cs:=[false,false,false,true,false,false,false,false,true,true,false,false]) (bs:=[false,false,false,true,false,false,false,false,true,fits x.length,OP x k,false]) (by kernel_rfl) (by rw[h3,q])
 ·exact DT.aQ (cs:=[false,false,false,true,false,false,false,false,true,true,true,true,true,true]) (bs:=[false,false,false,true,false,false,false,false,true,fits x.length,OP x k,true,true,fits tu.length]) (by kernel_rfl) (by rw[h3,q,V])
include V h3 in
theorem Qh:(eG 3 (zT x 1 fr (m3 k false false) tu ta)).eval=some (FL.next,cond (AR x k) (zT x 0 fr (m3 k false false) (tu++[.tup [.int (k+3), .int 0]]) ta) (zT x 1 fr (m3 k false false) tu ta)):=by
 cases q:AR x k
 ·exact DT.aQ (cs:=[false,false,false,false,false,true,true,false,false,false,false]) (bs:=[false,false,false,false,false,true,fits x.length,AR x k,false,false,false]) (by kernel_rfl) (by rw[h3,q])
 ·exact DT.aQ (cs:=[false,false,false,false,false,true,true,true,true,true,true]) (bs:=[false,false,false,false,false,true,fits x.length,AR x k,true,true,fits tu.length]) (by kernel_rfl) (by rw[h3,q,V])
include V h3 in
theorem Qi:(eG 3 (zT x 2 fr (m3 k o false) tu ta)).eval=some (FL.next,cond (AR x k) (zT x 0 fr (m3 k o false) (tu++[.tup [.int (k+3), .int 0]]) ta) (zT x 2 fr (m3 k o false) tu ta)):=by
 cases o<;>cases q:AR x k
 ·exact DT.aQ (cs:=[false,false,false,false,false,true,true,false,false,false,false]) (bs:=[false,false,false,false,false,true,fits x.length,AR x k,false,false,false]) (by kernel_rfl) (by rw[h3,q])
 ·exact DT.aQ (cs:=[false,false,false,false,false,true,true,true,true,true,true]) (bs:=[false,false,false,false,false,true,fits x.length,AR x k,true,true,fits tu.length]) (by kernel_rfl) (by rw[h3,q,V])
 ·exact DT.aQ (cs:=[false,false,false,true,false,false,true,true,false,false,false,false]) (bs:=[false,false,false,true,false,false,true,fits x.length,AR x k,false,false,false]) (by kernel_rfl) (by rw[h3,q])
 ·exact DT.aQ (cs:=[false,false,false,true,false,false,true,true,true,true,true,true]) (bs:=[false,false,false,true,false,false,true,fits x.length,AR x k,true,true,fits tu.length]) (by kernel_rfl) (by rw[h3,q,V])
end
theorem bF{f:Stmt->EM FL}{s:Stmt}{l:List Stmt}{z z':ES}(h:(f s z).eval=some (FL.next,z')):(aB f (s::l) z).eval=(aB f l z').eval:=DT.aC h
theorem Mc{f:Stmt->EM FL}{s:Stmt}{l:List Stmt}{z z':ES}(h:(f s z).eval=some (FL.cont,z')):(aB f (s::l) z).eval=some (FL.cont,z'):=DT.aC h
theorem mY{f:Stmt->EM FL}{s:Stmt}{l:List Stmt}{z z':ES}{v:U}(h:(f s z).eval=some (FL.ret v,z')):(aB f (s::l) z).eval=some (FL.ret v,z'):=DT.aC h
theorem J5{n i:Nat}:(iq 0 (n:Int))[i]?=if i<n then some (.int (i:Int))else none:=by
 unfold iq
 rw[List.getElem?_map,show((n:Int)-0).toNat=n by lia]
 split
 ·rename_i h;rw[List.getElem?_range h];show some (U.int (0+(i:Int)))=_;rw[Int.zero_add]
 ·rename_i h;rw[List.getElem?_eq_none (by rw[List.length_range];lia)];rfl
section
variable{x:Str}{n:Nat}{z fr:Int}{tu ta:List U}{o:Bool}
noncomputable def r4(o:Option Nat):Bool:=match o with|some ch=>cU ch|none=>false
theorem N'(hk:n<=x.length):decide (aS x (n:Int) ((n:Int)+7)="<script")=decide (((cps x).drop n).take 7=iJ):=qZ (y:="<script") (n:=7) rfl hk
theorem Oa(hk:n<=x.length):decide (aS x (n:Int) ((n:Int)+8)="</script")=decide (((cps x).drop n).take 8=iK):=qZ (y:="</script") (n:=8) rfl hk
theorem Ob(hk:n<=x.length):AR x (n:Int)=decide (((cps x).drop n).take 3=[45,45,62]):=qZ (y:="-->") (n:=3) rfl hk
theorem Oc(hk:n<=x.length):OP x (n:Int)=decide (((cps x).drop n).take 4=[60,33,45,45]):=qZ (y:="<!--") (n:=4) rfl hk
theorem Od:mh (aS x ((n:Int)+7) ((n:Int)+8)) rI=r4 ((cps x).drop n)[7]?:=by
 have:=Au (x:=x) (k:=n+7)
 rw[show(((n+7:Nat):Int))=(n:Int)+7 by lia,show(n:Int)+7+1=(n:Int)+8 by lia]at this
 rw[List.getElem?_drop];exact this
theorem Oe:mh (aS x ((n:Int)+8) ((n:Int)+9)) rI=r4 ((cps x).drop n)[8]?:=by
 have:=Au (x:=x) (k:=n+8)
 rw[show(((n+8:Nat):Int))=(n:Int)+8 by lia,show(n:Int)+8+1=(n:Int)+9 by lia]at this
 rw[List.getElem?_drop];exact this
theorem SI{m:Option (Bool×Bool)}(hk:n<=x.length)(hf:fits x.length=true):(eG 1 (zT x z fr (m1 (n:Int) m) tu ta)).eval=some (FL.next,zT x z fr (m2 (n:Int) (eV iJ ((cps x).drop n)) (m.map (·.2))) tu ta):=by
 have V:=N' hk
 have e:eV iJ ((cps x).drop n)=(decide (((cps x).drop n).take 7=iJ)&&r4 ((cps x).drop n)[7]?):=rfl
 rw[e]
 cases q:decide (((cps x).drop n).take 7=iJ)with
 |false=>
  rw[q]at V
  have:=DT.aQ (P' (x:=x) (z:=z) (fr:=fr) (k:=n) (tu:=tu) (ta:=ta) (m:=m)) (by rw[hf,V])
  rw[V]at this;exact this
 |true=>
  rw[q]at V
  have:=DT.aQ (P_ (x:=x) (z:=z) (fr:=fr) (k:=n) (tu:=tu) (ta:=ta) (m:=m)) (by rw[hf,V])
  rw[Od]at this;exact this
theorem SJ{m:Option Bool}(hk:n<=x.length)(hf:fits x.length=true):(eG 2 (zT x z fr (m2 (n:Int) o m) tu ta)).eval=some (FL.next,zT x z fr (m3 (n:Int) o (eV iK ((cps x).drop n))) tu ta):=by
 have V:=Oa hk
 have e:eV iK ((cps x).drop n)=(decide (((cps x).drop n).take 8=iK)&&r4 ((cps x).drop n)[8]?):=rfl
 rw[e]
 cases q:decide (((cps x).drop n).take 8=iK)with
 |false=>
  rw[q]at V
  have:=DT.aQ (Qb (x:=x) (z:=z) (fr:=fr) (k:=n) (tu:=tu) (ta:=ta) (o:=o) (m:=m)) (by rw[hf,V])
  rw[V]at this;exact this
 |true=>
  rw[q]at V
  have:=DT.aQ (Qa (x:=x) (z:=z) (fr:=fr) (k:=n) (tu:=tu) (ta:=ta) (o:=o) (m:=m)) (by rw[hf,V])
  rw[Oe]at this;exact this
noncomputable abbrev fe(x:Str)(t:TS)(more:List (Str×U)):ES:=zT x (t.z:Int) t.fr more (gr t.tu) (gr t.ta)
theorem SK{t:TS}(ht:pK n t)(hk:n<=x.length)(hx:x.length<2990)(W:¬(n:Int)<t.fr):
 (eG 3 (fe x t (m3 (n:Int) (eV iJ ((cps x).drop n)) (eV iK ((cps x).drop n))))).eval=some (FL.next,fe x (iz x n t) (m3 (n:Int) (eV iJ ((cps x).drop n)) (eV iK ((cps x).drop n)))):=by
 have f1:fits (gr t.tu).length=true:=by rw[y7];exact bq (by have:=ht.tu;lia)
 have f2:fits (gr t.ta).length=true:=by rw[y7];exact bq (by have:=ht.ta;lia)
 have f3:fits x.length=true:=bq (by lia)
 have U:=ht.z
 have V:=Ob hk
 have X:=Oc hk
 unfold iz
 rw[if_neg W]
 obtain⟨z,fr,tu,ta⟩:=t
 dsimp only at f1 f2 U⊢
 generalize eV iJ ((cps x).drop n)=o at⊢
 cases eV iK ((cps x).drop n)with
 |true=>
  rw[if_pos rfl]
  match z,U with
  |0,_=>rw[if_pos (by decide)];refine(Qc f1 f2).trans ?_;rw[jR,jR];rfl
  |1,_=>rw[if_pos (by decide)];refine(Qd f1 f2).trans ?_;rw[jR,jR];rfl
  |2,_=>rw[if_neg (by decide)];refine(Qe f1).trans ?_;rw[jR];rfl
 |false=>
  rw[if_neg (by decide)]
  match z,U with
  |0,_=>
   rw[if_neg (λq=>absurd q.2 (by decide)),if_neg (λq=>q.1 rfl)]
   refine(Qg f1 f3).trans ?_
   rw[X,jR]
   by_cases q:((cps x).drop n).take 4=[60,33,45,45]
   ·rw[decide_eq_true q,if_pos ⟨rfl,q⟩];rfl
   ·rw[decide_eq_false q,if_neg (λh=>q h.2)];rfl
  |1,_=>
   cases o with
   |true=>rw[if_pos ⟨rfl,rfl⟩];refine(Qf f1).trans ?_;rw[jR];rfl
   |false=>
    rw[if_neg (λq=>absurd q.1 (by decide))]
    refine(Qh f1 f3).trans ?_
    rw[V,jR]
    by_cases q:((cps x).drop n).take 3=[45,45,62]
    ·rw[decide_eq_true q,if_pos ⟨by decide,q⟩];rfl
    ·rw[decide_eq_false q,if_neg (λh=>q h.2),if_neg (λh=>absurd h.1 (by decide))];rfl
  |2,_=>
   rw[if_neg (λq=>absurd q.2 (by decide))]
   refine(Qi f1 f3).trans ?_
   rw[V,jR]
   by_cases q:((cps x).drop n).take 3=[45,45,62]
   ·rw[decide_eq_true q,if_pos ⟨by decide,q⟩];rfl
   ·rw[decide_eq_false q,if_neg (λh=>q h.2),if_neg (λh=>absurd h.1 (by decide))];rfl
noncomputable def nZ:EM FL:=aB (lz 39).St (dY fx)
theorem Of:dY fx=[aH (dY fx) 0,aH (dY fx) 1,aH (dY fx) 2,aH (dY fx) 3]:=by kernel_rfl
theorem Md{t:TS}(ht:pK n t)(hk:n<=x.length)(hx:x.length<2990){m:Option (Bool×Bool)}(hm:m=none->¬(n:Int)<t.fr):
 ∃fl o s,(fl=FL.next\/fl=FL.cont)/\(nZ (fe x t (m1 (n:Int) m))).eval=some (fl,fe x (iz x n t) (m0 (some ((n:Int),o,s)))):=by
 unfold nZ
 rw[Of]
 have f3:fits x.length=true:=bq (by lia)
 have e0:=SH (x:=x) (z:=(t.z:Int)) (fr:=t.fr) (k:=(n:Int)) (tu:=gr t.tu) (ta:=gr t.ta) (m:=m)
 by_cases q:(n:Int)<t.fr
 ·cases m with
  |none=>exact absurd q (hm rfl)
  |some p=>
   obtain⟨o,s⟩:=p
   refine⟨FL.cont,o,s, .inr rfl, ?_⟩
   have U:iz x n t=t:=by unfold iz;rw[if_pos q]
   rw[U]
   refine Mc (s:=aH (dY fx) 0) ?_
   show(eG 0 _).eval=_
   rw[e0,decide_eq_true q];rfl
 ·refine⟨FL.next,eV iJ ((cps x).drop n),eV iK ((cps x).drop n), .inl rfl, ?_⟩
  refine(bF (s:=aH (dY fx) 0) (z':=fe x t (m1 (n:Int) m)) ?_).trans ((bF (SI hk f3)).trans ((bF (SJ hk f3)).trans ((bF (SK ht hk hx q)).trans rfl)))
  show(eG 0 _).eval=_
  rw[e0,decide_eq_false q];rfl
theorem Qj(hx:x.length<2990):∀(f i:Nat) (m:Option (Int×Bool×Bool)),x.length-i<f->i<=x.length->(m=none->i=0)->∃U,(cQ ql nZ (.fixed (iq 0 (x.length:Nat))) f i (fe x (tS x i) (m0 m))).eval=some (FL.next,fe x (tS x x.length) (m0 U)):=by
 intro f
 induction f with
 |zero=>intro i m h;exact absurd h (Nat.not_lt_zero _)
 |succ f ih=>
  intro i m hf hi hm
  show∃U,((λo=>match o with
   |none=>ak FL.next
   |some y=>bd (ql y) λ_=>bd nZ (fu (cQ ql nZ (.fixed (iq 0 (x.length:Nat))) f (i+1)))) (iq 0 (x.length:Nat))[i]? (fe x (tS x i) (m0 m))).eval=_
  rw[J5]
  by_cases V:i<x.length
  ·rw[if_pos V]
   have W:m.map (·.2)=none->¬(i:Int)<(tS x i).fr:=λq=>by
    cases m with
    |none=>cases hm rfl;exact Int.lt_irrefl 0
    |some p=>cases q
   obtain⟨fl,o,s,X,he⟩:=Md (v9 i) (Nat.le_of_lt V) hx W
   obtain⟨U,h'⟩:=ih (i+1) (some ((i:Int),o,s)) (by lia) V (λq=>by cases q)
   refine⟨U, ?_⟩
   refine(DT.aC (a:=((),fe x (tS x i) (m1 (i:Int) (m.map (·.2))))) (by rw[P9];rfl)).trans ?_
   refine(DT.aC he).trans ?_
   rcases X with rfl|rfl<;>exact h'
  ·rw[if_neg V]
   have:i=x.length:=by lia
   subst this
   exact⟨m,rfl⟩
noncomputable def eH:List Stmt:=(aW 808).body
noncomputable def pL:Stmt:=aH eH 5
theorem Me:(aW 808).body=[aH eH 0,aH eH 1,aH eH 2,aH eH 3,fx,pL]:=by kernel_rfl
noncomputable def Dc(x:Str):ES:=⟨[.frame [("low", .str x)]],[]⟩
theorem Oh:aL S1 ge 3000 40 808 [.str x] ⟨[],[]⟩=finish (aB (lz 40).St (aW 808).body (Dc x)):=oE (fi:=aW 808) (bs:=[("low", .str x)]) (by kernel_rfl) (by kernel_rfl) (by kernel_rfl) (by kernel_rfl)
theorem Oi:(aB (lz 40).St [aH eH 0,aH eH 1,aH eH 2,aH eH 3] (Dc x)).eval=some (FL.next,fe x (tS x 0) (m0 none)):=by kernel_rfl
theorem Oj{t:TS}:(lz 40).St fx (fe x t (m0 none))= .test (fits x.length) (.test (decide ((0:Int)<=0)&&fits (0:Int).toNat&&(decide ((0:Int)<=(x.length:Nat))&&fits ((x.length:Nat):Int).toNat)) (cQ ql nZ (.fixed (iq 0 (x.length:Nat))) 3000 0 (fe x t (m0 none))) .fail) .fail:=by kernel_rfl
theorem Ol{t:TS}{m:Option (Int×Bool×Bool)}:((lz 40).St pL (fe x t (m0 m))).eval=some (FL.ret (.tup [.obj 0, .obj 1]),fe x t (m0 m)):=by cases m<;>kernel_rfl
theorem Mf(hx:x.length<2990):(aL S1 ge 3000 40 808 [.str x] ⟨[],[]⟩).eval=some (.tup [.obj 0, .obj 1],⟨[],[.list (gr (tS x x.length).tu), .list (gr (tS x x.length).ta)]⟩):=by
 obtain⟨U,h⟩:=Qj hx 3000 0 none (by lia) (Nat.zero_le _) (λ_=>rfl)
 have f3:fits x.length=true:=bq (by lia)
 rw[Oh]
 refine jQ (fl:= .ret (.tup [.obj 0, .obj 1])) (es:=Eg x ((tS x x.length).z:Int) (tS x x.length).fr (m0 U)) ?_ (.inl rfl)
 rw[Me,show[aH eH 0,aH eH 1,aH eH 2,aH eH 3,fx,pL]=[aH eH 0,aH eH 1,aH eH 2,aH eH 3]++[fx,pL]from rfl,tZ]
 refine(DT.aC Oi).trans ?_
 show(aB (lz 40).St [fx,pL] (fe x (tS x 0) (m0 none))).eval=_
 refine(bF (z':=fe x (tS x x.length) (m0 U)) ?_).trans (mY Ol)
 rw[Oj,f3]
 have e:(decide ((0:Int)<=0)&&fits (0:Int).toNat&&(decide ((0:Int)<=(x.length:Nat))&&fits ((x.length:Nat):Int).toNat))=true:=by
  rw[decide_eq_true (Int.le_refl 0),decide_eq_true (by lia),show((x.length:Nat):Int).toNat=x.length by lia,f3];rfl
 rw[e]
 exact h
end
noncomputable def eC(l:List (Int×Int)):List PyData:=l.map λp=> .tuple [.int p.1, .int p.2]
noncomputable def kL(x:Str):PyData:= .tuple [.list (eC (tS x x.length).tu), .list (eC (tS x x.length).ta)]
theorem yu{os:List AO}{l:List (Int×Int)}:∀{k:Nat},d9 os (l.length+k+5) (gr l)=some (eC l):=by
 induction l with
 |nil=>exactλ{k}=>rfl
 |cons p l ih=>
  intro k
  rw[show(p::l).length+k+5=(l.length+k+5)+1 by rw[List.length_cons];lia]
  refine gj ?_ ih
  rfl
theorem mA{os:List AO}{l n:Nat}{xs:List U}{ds:List PyData}(h:os[l]?=some (.list xs))(h2:d9 os n xs=some ds):cS os (n+1) (.obj l)=some (.list ds):=by
 show(match os[l]?with
  |some (.list xs)=>(d9 os n xs).map PyData.list
  |_=>none)=_
 rw[h]
 exact congrArg (Option.map PyData.list) h2
noncomputable def Bz(args:List U):DT PyData:=List.casesOn args .fail λa r=>List.casesOn r (Option.casesOn (hU a) .fail λx=> .test (Nat.blt x.length 2990) (.leaf (kL x)) .fail) λ_ _=> .fail
theorem Hx(args:List U)(d:PyData)(h:(Bz args).eval=some d):args.all fR=true/\(aL S1 ge 3000 40 808 args ⟨[],[]⟩).Holds λr=>∃m,cS r.2.os m r.1=some d:=by
 rcases args with _|⟨a,_|⟨_,_⟩⟩
 ·cases h
 ·have h:DT.eval (Option.casesOn (hU a) .fail λx=> .test (Nat.blt x.length 2990) (.leaf (kL x)) .fail)=some d:=h
  cases q:hU a with
  |none=>rw[q]at h;cases h
  |some x=>
   rw[q]at h
   have h:cond (Nat.blt x.length 2990) (some (kL x)) none=some d:=h
   cases q2:Nat.blt x.length 2990 with
   |false=>rw[q2]at h;cases h
   |true=>
    rw[q2]at h
    cases h
    rw[rB q]
    refine⟨rfl,DT.du (Mf (Nat.blt_eq.mp q2)) ?_⟩
    refine⟨((tS x x.length).tu.length+(tS x x.length).ta.length+5)+5, ?_⟩
    refine uk (gj (n:=(tS x x.length).tu.length+(tS x x.length).ta.length+8) (mA rfl ?_) (gj (mA rfl ?_) rfl))
    ·rw[show(tS x x.length).tu.length+(tS x x.length).ta.length+7=(tS x x.length).tu.length+((tS x x.length).ta.length+2)+5 by lia];exact yu
    ·rw[show(tS x x.length).tu.length+(tS x x.length).ta.length+6=(tS x x.length).ta.length+((tS x x.length).tu.length+1)+5 by lia];exact yu
 ·cases h
noncomputable def b5(c:Nat):List Nat->List (List Nat)
 |[]=>[[]]
 |a::w=>if a=c then[]::b5 c w else match b5 c w with
  |[]=>[[a]]
  |h::t=>(a::h)::t
theorem oA(c:Nat)(l:List Nat):∃h t,b5 c l=h::t:=by
 cases l with
 |nil=>exact⟨_,_,rfl⟩
 |cons a w=>
  unfold b5
  split
  ·exact⟨_,_,rfl⟩
  ·split
   ·exact⟨_,_,rfl⟩
   ·exact⟨_,_,rfl⟩
noncomputable def o8(c:Nat):List (List Nat)->List Nat
 |[]=>[]
 |[x]=>x
 |x::y::r=>x++c::o8 c (y::r)
theorem yB{c:Nat}:∀{x:List Nat},c∉x->b5 c x=[x]
 |[],h=>rfl
 |a::x,h=>by
  unfold b5
  rw[if_neg (λe=>h (by rw[e];exact .head _)),yB λq=>h (.tail _ q)]
theorem y_{c:Nat}{l:List Nat}:∀{x:List Nat},c∉x->b5 c (x++c::l)=x::b5 c l
 |[],h=>by
  show b5 c (c::l)=_
  unfold b5
  rw[if_pos rfl]
  cases l<;>rfl
 |a::x,h=>by
  rw[List.cons_append]
  conv=>lhs;unfold b5
  rw[if_neg (λe=>h (by rw[e];exact .head _)),y_ λq=>h (.tail _ q)]
theorem za{c:Nat}:∀{ps:List (List Nat)},ps≠[]->(∀p∈ps,c∉p)->b5 c (o8 c ps)=ps
 |[],h,_=>absurd rfl h
 |[x],_,h=>yB (h x (.head _))
 |x::y::r,_,h=>by
  show b5 c (x++c::o8 c (y::r))=_
  rw[y_ (h x (.head _)),za (by simp) λp hp=>h p (.tail _ hp)]
theorem Av(c:Nat):∀ps:List Str,cps (Str.join ⟨#[c]⟩ ps)=o8 c (ps.map cps)
 |[]=>rfl
 |[x]=>rfl
 |x::y::r=>by
  show(x.cps++#[c]++(Str.join ⟨#[c]⟩ (y::r)).cps).toList=_
  rw[Array.toList_append,Array.toList_append]
  show cps x++[c]++cps (Str.join ⟨#[c]⟩ (y::r))=cps x++c::o8 c ((y::r).map cps)
  rw[Av c (y::r)];simp
theorem EB(x y:Str):Txt.split x y≠[]:=by
 unfold Txt.split
 split
 ·simp
 ·split
  ·simp
  ·unfold Builtin.Str.partsBetween
   intro h
   have:=congrArg List.length h
   simp at this
theorem split_list(x:Str)(c:Nat):Txt.split x ⟨#[c]⟩=(b5 c (cps x)).map ag:=by
 have V:=congrArg cps (StrLaws.join_split x ⟨#[c]⟩)
 rw[Av]at V
 have h2:=za (c:=c) (ps:=(Txt.split x ⟨#[c]⟩).map cps) (λe=>EB x _ (List.map_eq_nil_iff.mp e)) (λp hp=>by
  obtain⟨q,U,rfl⟩:=List.mem_map.mp hp
  exact StrLaws.split_free x c q U)
 rw[V]at h2
 rw[h2,List.map_map]
 have:(ag∘cps)=id:=by funext s;rfl
 rw[this,List.map_id]
noncomputable def nk(row:List RI)(p:List Nat):List RI:=aJ (row++[hB]) (65533::p)
theorem qS:∀(l:List Nat) (row:List RI) (h:List Nat) (t:List (List Nat)),b5 0 l=h::t->feed row l=t.foldl nk (aJ row h)
 |[],row,h,t,e=>by cases e;rfl
 |a::w,row,h,t,e=>by
  obtain⟨h',V,U⟩:=oA 0 w
  unfold b5 at e
  by_cases ha:a=0
  ·rw[if_pos ha,U]at e
   cases e
   show feed (ix row a) w=_
   rw[qS w _ h' V U]
   unfold ix
   rw[if_pos ha,uj];rfl
  ·rw[if_neg ha,U]at e
   injection e with e1 e2
   subst e1
   subst e2
   show feed (ix row a) w=_
   rw[qS w _ h' V U]
   unfold ix
   rw[if_neg ha,uj]
structure Bd(n:Nat)(row:List RI):Prop where
 len:row.length<=2*n+1
 txt:∀q, .text q∈row->q.length<=n
theorem Bd.say{n:Nat}{row:List RI}{p:List Nat}(V:row.length<=2*n+2)(h2:∀q, .text q∈row->q.length<=n)(hp:1<=p.length):Bd (n+p.length) (aJ row p):=by
 cases p with
 |nil=>simp at hp
 |cons a p=>
  show Bd _ (match row.getLast? with
   |some (.text q)=>row.dropLast++[.text (q++(a::p))]
   |_=>row++[.text (a::p)])
  have e:(a::p).length=p.length+1:=rfl
  cases hl:row.getLast? with
  |none=>
   refine⟨by rw[List.length_append];show _+1<=_;lia,λq U=> ?_⟩
   rcases List.mem_append.mp U with U|U
   ·have:=h2 q U;lia
   ·rcases List.mem_singleton.mp U with U;cases U;lia
  |some b=>
   cases b with
   |text W=>
    refine⟨by rw[List.length_append,List.length_dropLast];show _+1<=_;lia,λq U=> ?_⟩
    rcases List.mem_append.mp U with U|U
    ·have:=h2 q (List.dropLast_subset _ U);lia
    ·rcases List.mem_singleton.mp U with U;cases U
     have:=h2 W (List.mem_of_getLast? hl)
     rw[List.length_append];lia
   |_=>
    refine⟨by rw[List.length_append];show _+1<=_;lia,λq U=> ?_⟩
    rcases List.mem_append.mp U with U|U
    ·have:=h2 q U;lia
    ·rcases List.mem_singleton.mp U with U;cases U;lia
theorem Bd.step{n:Nat}{row:List RI}{p:List Nat}(h:Bd n row):Bd (n+(p.length+1)) (nk row p):=by
 have hl:=h.len
 refine Bd.say (p:=65533::p) (by rw[List.length_append];show _+1<=_;lia) (λq U=> ?_) (by simp)
 rcases List.mem_append.mp U with U|U
 ·exact h.txt q U
 ·rcases List.mem_singleton.mp U with U;cases U
theorem Bd.first{n:Nat}{row:List RI}{p:List Nat}(h:Bd n row):Bd (n+p.length) (aJ row p):=by
 cases p with
 |nil=>exact h
 |cons a p=>exact Bd.say (by have:=h.len;lia) h.txt (by simp)
noncomputable def fX(t:List (List Nat)):Nat:=(t.map λp=>p.length+1).sum
theorem Bd.fold:∀(t:List (List Nat)) {n:Nat} {row:List RI},Bd n row->Bd (n+fX t) (t.foldl nk row)
 |[],n,row,h=>h
 |p::t,n,row,h=>by
  have:=Bd.fold t (h.step (p:=p))
  rw[List.foldl_cons]
  have e:n+fX (p::t)=n+(p.length+1)+fX t:=by unfold fX;rw[List.map_cons,List.sum_cons];lia
  rw[e]
  exact this
theorem ul:∀(l:List Nat) (h:List Nat) (t:List (List Nat)),b5 0 l=h::t->h.length+fX t=l.length
 |[],h,t,e=>by cases e;rfl
 |a::w,h,t,e=>by
  obtain⟨h',V,U⟩:=oA 0 w
  have ih:=ul w h' V U
  unfold b5 at e
  split at e
  ·rw[U]at e;cases e
   show 0+fX (h'::V)=_
   unfold fX at ih⊢
   rw[List.map_cons,List.sum_cons,List.length_cons];lia
  ·rw[U]at e;cases e
   rw[List.length_cons,List.length_cons];lia
theorem uH{asg:U->EM Unit}{b:EM FL}{l:Nat}{qs:List U}(st:Nat->ES)(h0:∀i,(st i).os[l]?=some (.list qs))(h:∀i x,qs[i]?=some x->∃W,(asg x (st i)).eval=some ((),W)/\(b W).eval=some (FL.next,st (i+1))):
 ∀n i,qs.length<n+i->i<=qs.length->(cQ asg b (.live l) n i (st i)).eval=some (FL.next,st qs.length)
 |0,i,V,h2=>by lia
 |n+1,i,V,h2=>by
  have e:cQ asg b (.live l) (n+1) i (st i)=(match qs[i]?with
   |none=>ak .next
   |some x=>bd (asg x) λ_=>bd b λres=>fu (cQ asg b (.live l) n (i+1)) res:EM FL) (st i):=by
   show(get' l _ (st i))=_
   rw[mW (h0 i)];try rfl
  rw[e]
  cases ho:qs[i]?with
  |none=>
   have:=List.getElem?_eq_none_iff.mp ho
   have:i=qs.length:=by lia
   subst this;rfl
  |some x=>
   obtain⟨W,k1,k2⟩:=h i x ho
   have X:=(List.getElem?_eq_some_iff.mp ho).1
   dsimp only[bd]
   refine f9 ?_ k1
   show(DT.bind (b W) _).eval=_
   refine f9 ?_ k2
   exact uH st h0 h n (i+1) (by lia) (by lia)
theorem Om{z:ES}{l:Nat}{p:U}{r:List U}(h:z.os[l]?=some (.list (p::r)))(hf:fits (p::r).length=true):(cG S1 (.obj l) (.int 0) z).eval=some (p,z):=by
 show(get' l _ z).eval=_
 rw[mW h]
 show(DT.test (fits (p::r).length&&cy 0 (p::r).length) (.leaf (p,z)) .fail).eval=_
 rw[hf,show cy 0 (p::r).length=true from py (x:=0) (by simp)];rfl
theorem J6{t:List (List Nat)}{i:Nat}{x:U}(h:(t.map λp=>U.str (ag p))[i]?=some x):∃p,t[i]?=some p/\x= .str (ag p):=by
 rw[List.getElem?_map]at h
 cases q:t[i]?with
 |none=>rw[q]at h;cases h
 |some p=>rw[q]at h;cases h;exact⟨p,rfl,rfl⟩
theorem J7(t:List (List Nat))(i:Nat):fX (t.take i)<=fX t:=by
 conv=>rhs;rw[<-List.take_append_drop i t]
 unfold fX
 rw[List.map_append,List.sum_append];lia
theorem Mg{t:List (List Nat)}{p:List Nat}(h:p∈t):p.length+1<=fX t:=by
 induction t with
 |nil=>cases h
 |cons a t ih=>
  unfold fX at ih⊢
  rw[List.map_cons,List.sum_cons]
  rcases List.mem_cons.mp h with rfl|h
  ·lia
  ·have:=ih h;lia
theorem Mh(t:List (List Nat)):t.length<=fX t:=by
 induction t with
 |nil=>exact Nat.zero_le _
 |cons a t ih=>unfold fX at ih⊢;rw[List.map_cons,List.sum_cons,List.length_cons];lia
theorem Aw{p:List Nat}:("�":Str)++ag p=ag (65533::p):=by rw[kG,gm];rfl
noncomputable def np:Stmt->PySem.Expr
 | .Expr e _=>e
 |_=>E0
noncomputable abbrev hV(n:Nat):IH:=bM S1 ge 3000 n (aW 801).scope []
noncomputable def kZ:List Stmt:=(aW 801).body
noncomputable def lX:Stmt:=aH kZ 2
theorem Mi:(aW 801).body=[aH kZ 0,aH kZ 1,lX]:=by kernel_rfl
noncomputable def xV(p:Str):List (Str×U):=[("row", .obj 1),("piece", .str p)]
noncomputable def fB(p:Str)(n1:Nat)(pt:Option Str):List (Str×U):=("row", .obj 1)::("piece", .str p)::("parts", .obj n1)::(match pt with|none=>[]|some q=>[("part", .str q)])
noncomputable def tD:U->EM Unit:=bv S1 (aW 801).scope [] (hV 39).E (ni lX)
noncomputable def tE:EM FL:=aB (hV 39).St (dY lX)
section
variable{p h q:Str}{n1:Nat}{pt:Option Str}{fs os junk:List AO}{a0:AO}{xs ps:List U}
theorem On:aL S1 ge 3000 40 801 [.obj 1, .str p] ⟨fs,os⟩=finish (aB (hV 40).St (aW 801).body ⟨.frame (xV p)::fs,os⟩):=oE (fi:=aW 801) (bs:=xV p) (by kernel_rfl) (by kernel_rfl) (by kernel_rfl) (by kernel_rfl)
theorem SL:(hV 40).St (aH kZ 0) ⟨.frame (xV p)::fs,os⟩= .test (fits p.length&&true) (.leaf (FL.next,⟨.frame (fB p os.length none)::fs,os++[.list ((Txt.split p "\x00").map U.str)]⟩)) .fail:=by kernel_rfl
theorem SM:(hV 40).St (aH kZ 1)=bd ((hV 39).E (np (aH kZ 1))) λ_=>ak FL.next:=by kernel_rfl
theorem Qk:(hV 39).E (np (aH kZ 1)) ⟨.frame (fB p n1 none)::fs,os⟩=(bd (bd (bd (cG S1 (.obj n1) (.int 0)) λv=>ak [v]) λvs=>ak (U.obj 1::vs)) λvs=>cO S1 ge (.top 794) vs) ⟨.frame (fB p n1 none)::fs,os⟩:=by kernel_rfl
theorem Ql:cO S1 ge (.top 794) [.obj 1, .str h] ⟨fs,a0:: .list xs::junk⟩= .test (eE xs h) (.leaf (.none,⟨fs,a0:: .list (cb xs h)::junk⟩)) .fail:=by kernel_rfl
theorem SN:(hV 40).St lX=bd ((hV 39).E (vW lX)) λx=>srcOf x λsrc=>cQ tD tE src 3000 0:=by kernel_rfl
theorem Qm:(hV 39).E (vW lX) ⟨.frame (fB p n1 none)::fs,os⟩=oL (.obj n1) (.int 1) .none ⟨.frame (fB p n1 none)::fs,os⟩:=by kernel_rfl
theorem Qn:tD (.str q) ⟨.frame (fB p n1 pt)::fs,os⟩= .leaf ((),⟨.frame (fB p n1 (some q))::fs,os⟩):=by cases pt<;>kernel_rfl
theorem Qo:(tE ⟨.frame (fB p n1 (some q))::fs,a0:: .list xs::junk⟩).run [true,true,true,true]=some ([true,fits xs.length,fits 1&&fits q.length,eE (xs++[b_ "invalid-codepoint"]) ("�"++q)],(FL.next,⟨.frame (fB p n1 (some q))::fs,a0:: .list (cb (xs++[b_ "invalid-codepoint"]) ("�"++q))::junk⟩)):=by kernel_rfl
theorem Mj{z:ES}(h:z.os[n1]?=some (.list ps))(hf:fits ps.length=true)(hp:1<=ps.length):(oL (.obj n1) (.int 1) .none z).eval=some (.obj z.os.length,⟨z.fs,z.os++[.list (ps.drop 1)]⟩):=by
 show(gL n1 _ z).eval=_
 rw[iw h]
 show cond (fits ps.length) (some (U.obj z.os.length,(⟨z.fs,z.os++[.list (cut ps (min 1 ps.length) ps.length)]⟩:ES))) none=_
 rw[hf,Nat.min_eq_left hp]
 unfold cut
 rw[List.take_length];rfl
theorem Oo{α:Type}{z:ES}{k:Src->EM α}(h:z.os[n1]?=some (.list ps)):srcOf (.obj n1) k z=k (.live n1) z:=iw h
end
noncomputable def tF(t:List (List Nat)):Nat->Option Str
 |0=>none
 |i+1=>some (ag (t.getD i []))
theorem rJ{a0 a b c:AO}{junk:List AO}:(a0::a::(junk++[b]))[(a0::a::junk).length]?=some b/\(a0::a::(junk++[b,c]))[(a0::a::junk).length]?=some b/\(a0::a::(junk++[b,c]))[(a0::a::junk).length+1]?=some c:=by
 refine⟨?_, ?_, ?_⟩<;>simp
noncomputable def v_(junk:List AO)(m:Nat):Option (List Nat)->Prop
 |none=>junk[m]?=some (.list [])
 |some b=>∃k:Nat,junk[m]?=some (.list [.obj (k+2)])/\junk[k]?=some (.list [.str (ag b), .str ""])
inductive EJ(junk:List AO):U->RI->Prop
 |text (p:List Nat):EJ junk (cA (ag p)) (.text p)
 |err (e:Nat):EJ junk (b_ (eZ e)) (.err e)
 |fin (b:Option (List Nat)) (sc:Bool) (m:Nat) (h:v_ junk m b):EJ junk (.tup [.str "end", .str "script", .obj (m+2), .bool sc]) (.fin b sc)
structure RJ(junk:List AO)(xs:List U)(row:List RI):Prop where
 len:xs.length=row.length
 at_:∀(i:Nat) (a:U) (r:RI),xs[i]?=some a->row[i]?=some r->EJ junk a r
section
variable{junk:List AO}{xs:List U}{row:List RI}{a:U}{r:RI}
theorem uI{l more:List AO}{m:Nat}{o:AO}(h:l[m]?=some o):(l++more)[m]?=some o:=by rw[List.getElem?_append_left (List.getElem?_eq_some_iff.mp h).1];exact h
theorem EJ.mono(h:EJ junk a r)(more:List AO):EJ (junk++more) a r:=by
 cases h with
 |text p=>exact .text p
 |err e=>exact .err e
 |fin b sc m h=>
  refine .fin b sc m ?_
  cases b with
  |none=>exact uI h
  |some b=>obtain⟨k,V,h2⟩:=h;exact⟨k,uI V,uI h2⟩
theorem RJ.mono(h:RJ junk xs row)(more:List AO):RJ (junk++more) xs row:=⟨h.len,λi a r e1 e2=>(h.at_ i a r e1 e2).mono more⟩
theorem RJ.nil:RJ junk [] []:=⟨rfl,λi a r e=>by cases e⟩
theorem RJ.snoc(h:RJ junk xs row)(e:EJ junk a r):RJ junk (xs++[a]) (row++[r]):=by
 refine⟨by rw[List.length_append,List.length_append,h.len];rfl,λi b q e1 e2=> ?_⟩
 rcases Nat.lt_or_ge i xs.length with hi|hi
 ·rw[List.getElem?_append_left hi]at e1
  rw[List.getElem?_append_left (h.len▸hi)]at e2
  exact h.at_ i b q e1 e2
 ·rw[List.getElem?_append_right hi]at e1
  rw[List.getElem?_append_right (h.len▸hi),<-h.len]at e2
  cases U:i-xs.length with
  |zero=>rw[U]at e1 e2;cases e1;cases e2;exact e
  |succ n=>rw[U]at e1;cases e1
theorem RJ.last(h:RJ junk xs row)(hl:row.getLast?=some r):∃a,xs.getLast?=some a/\EJ junk a r:=by
 rw[List.getLast?_eq_getElem?]at hl⊢
 have U:=(List.getElem?_eq_some_iff.mp hl).1
 rw[h.len]
 have:row.length-1<xs.length:=by rw[h.len];exact U
 exact⟨_,List.getElem?_eq_getElem this,h.at_ _ _ _ (List.getElem?_eq_getElem this) hl⟩
theorem EJ.two(h:EJ junk a r):∃t y,o5 a=some (t,y)/\((∃q,r= .text q/\t="text"/\y=ag q)\/((∀q,r≠ .text q)/\decide (t="text")=false/\fits y.length=true)):=by
 cases h with
 |text p=>exact⟨_,_,rfl, .inl ⟨p,rfl,rfl,rfl⟩⟩
 |err e=>exact⟨_,_,rfl, .inr ⟨(λq h=>by cases h),by kernel_rfl,zA e⟩⟩
 |fin b sc m h=>exact⟨_,_,rfl, .inr ⟨(λq h=>by cases h),by kernel_rfl,by kernel_rfl⟩⟩
theorem RJ.say(h:RJ junk xs row)(p:List Nat):RJ junk (cb xs (ag p)) (aJ row p):=by
 cases p with
 |nil=>exact h
 |cons c p=>
  show RJ junk (Option.casesOn (gX xs) (xs++[cA (ag (c::p))]) λq=>cond (decide (q.1="text")) (xs.set (xs.length-1) (cA (q.2++ag (c::p)))) (xs++[cA (ag (c::p))])) (match row.getLast? with
   |some (.text q)=>row.dropLast++[.text (q++(c::p))]
   |_=>row++[.text (c::p)])
  unfold gX
  cases hl:row.getLast? with
  |none=>
   have e:=List.getLast?_eq_none_iff.mp hl
   subst e
   have e:=List.eq_nil_of_length_eq_zero h.len
   subst e
   exact h.snoc (.text _)
  |some r=>
   obtain⟨a,ha,he⟩:=h.last hl
   obtain⟨t,y,V,h2⟩:=he.two
   rw[ha]
   show RJ junk (Option.casesOn (o5 a) (xs++[cA (ag (c::p))]) λq=>cond (decide (q.1="text")) (xs.set (xs.length-1) (cA (q.2++ag (c::p)))) (xs++[cA (ag (c::p))])) _
   rw[V]
   rcases h2 with⟨q,rfl,rfl,rfl⟩|⟨h3,h4,_⟩
   ·show RJ junk (xs.set (xs.length-1) (cA (ag q++ag (c::p)))) (row.dropLast++[.text (q++(c::p))])
    rw[<-Ao hl,gm,<-h.len]
    refine⟨by rw[List.length_set,List.length_set,h.len],λi b z e1 e2=> ?_⟩
    by_cases hi:xs.length-1=i
    ·subst hi
     have U:xs.length-1<xs.length:=by
      have:=(List.getElem?_eq_some_iff.mp e1).1
      rwa[List.length_set]at this
     rw[List.getElem?_set_self U]at e1
     rw[List.getElem?_set_self (h.len▸U)]at e2
     cases e1;cases e2
     exact .text _
    ·rw[List.getElem?_set_ne hi]at e1 e2
     exact h.at_ i b z e1 e2
   ·have e:(match some r with
     |some (.text q)=>row.dropLast++[.text (q++(c::p))]
     |_=>row++[.text (c::p)])=row++[RI.text (c::p)]:=by
     cases r with
     |text q=>exact absurd rfl (h3 q)
     |_=>rfl
    rw[e]
    show RJ junk (cond (decide (t="text")) _ (xs++[cA (ag (c::p))])) _
    rw[h4]
    exact h.snoc (.text _)
theorem RJ.ok(h:RJ junk xs row){p:List Nat}(V:row.length<=100000)(h2:∀q, .text q∈row->q.length<=100000)(h3:p.length<=10000):eE xs (ag p)=true:=by
 unfold eE gX
 rw[iy (by lia),bq (by rw[h.len];lia)]
 cases hl:row.getLast? with
 |none=>
  have e:=List.getLast?_eq_none_iff.mp hl
  subst e
  rw[List.eq_nil_of_length_eq_zero h.len];rfl
 |some r=>
  obtain⟨a,ha,he⟩:=h.last hl
  obtain⟨t,y,h4,h5⟩:=he.two
  rw[ha]
  refine(Bool.or_eq_true_iff (x:=xs.isEmpty)).mpr (.inr ?_)
  show Option.casesOn (motive:=λ_=>Bool) (o5 a) false (λq=>fits q.2.length)=true
  rw[h4]
  rcases h5 with⟨q,rfl,rfl,rfl⟩|⟨_,_,U⟩
  ·have:=h2 q (List.mem_of_getLast? hl)
   exact iy (by lia)
  ·exact U
theorem EJ.data(h:EJ junk a r)(o' o:AO)(n:Nat):cS (o'::o::junk) (n+12) a=some (nL r):=by
 cases h with
 |text p=>rfl
 |err e=>rfl
 |fin b sc m h=>
  refine uk (gj rfl (gj rfl (gj ?_ (gj rfl rfl))))
  cases b with
  |none=>exact mA (os:=o'::o::junk) (l:=m+2) h rfl
  |some b=>
   obtain⟨k,V,h2⟩:=h
   refine mA (os:=o'::o::junk) (l:=m+2) V (gj ?_ rfl)
   exact mA (os:=o'::o::junk) (l:=k+2) h2 rfl
theorem RJ.data(o' o:AO):∀{xs:List U} {row:List RI},RJ junk xs row->d9 (o'::o::junk) (xs.length+12) xs=some (row.map nL)
 |[],row,h=>by rw[List.eq_nil_of_length_eq_zero h.len.symm];rfl
 |a::xs,[],h=>by cases h.len
 |a::xs,r::row,h=>by
  have ht:RJ junk xs row:=⟨Nat.succ.inj h.len,λi b q e1 e2=>h.at_ (i+1) b q e1 e2⟩
  rw[show(a::xs).length+12=(xs.length+12)+1 from Nat.add_right_comm xs.length 1 12]
  exact gj ((h.at_ 0 a r rfl rfl).data o' o xs.length) (RJ.data o' o ht)
end
noncomputable def jl(xs:List U)(p:List Nat):List U:=cb (xs++[b_ "invalid-codepoint"]) (ag (65533::p))
theorem RJ.step{junk:List AO}{xs:List U}{row:List RI}(h:RJ junk xs row)(p:List Nat):RJ junk (jl xs p) (nk row p):=(h.snoc (.err 0)).say (65533::p)
theorem RJ.fold{junk:List AO}:∀{t:List (List Nat)} {xs:List U} {row:List RI},RJ junk xs row->RJ junk (t.foldl jl xs) (t.foldl nk row)
 |[],_,_,h=>h
 |p::t,_,_,h=>RJ.fold (t:=t) (h.step p)
theorem F8{t:List (List Nat)}{i:Nat}{p:List Nat}(h:t[i]?=some p)(xs:List U):(t.take (i+1)).foldl jl xs=jl ((t.take i).foldl jl xs) p:=by
 rw[List.take_add_one,h,List.foldl_append];rfl
theorem zK{n:Nat}{xs:List U}{row:List RI}{junk:List AO}(W:RJ junk xs row)(am:Bd n row){l:List Nat}(hn:n+l.length<=40000)(hl:l.length<=2000)(fs:List AO)(a0:AO):
 ∃X ps qs,RJ junk X (feed row l)/\(aL S1 ge 3000 40 801 [.obj 1, .str (ag l)] ⟨fs,a0:: .list xs::junk⟩).eval=some (.none,⟨fs,a0:: .list X::(junk++[.list ps, .list qs])⟩):=by
 obtain⟨h,t,hs⟩:=oA 0 l
 have I:=ul _ h t hs
 have K:(Txt.split (ag l) "\x00").map U.str= .str (ag h)::t.map λp=>U.str (ag p):=by
  have h0:("\x00":Str)=⟨#[0]⟩:=by kernel_rfl
  rw[h0,split_list,JD,hs,List.map_cons,List.map_cons,List.map_map];rfl
 have D:=Mh t
 have Y:fits (U.str (ag h)::t.map λp=>U.str (ag p)).length=true:=bq (by rw[List.length_cons,List.length_map];lia)
 have F:=am.len
 have L:=am.first (p:=h)
 let ps:List U:= .str (ag h)::t.map λp=>U.str (ag p)
 let qs:List U:=t.map λp=>U.str (ag p)
 let n1:=(a0::AO.list xs::junk).length
 have e2:feed row l=t.foldl nk (aJ row h):=qS l row h t hs
 have Z:=W.say h
 refine⟨t.foldl jl (cb xs (ag h)),ps,qs,by rw[e2];exact Z.fold, ?_⟩
 rw[On]
 refine jQ (fl:= .next) (es:=fB (ag l) n1 (tF t t.length)) ?_ (.inr ⟨rfl,rfl⟩)
 rw[Mi]
 rw[bF (z':=⟨.frame (fB (ag l) n1 none)::fs,a0:: .list (xs)::(junk++[.list ps])⟩) (by
  rw[SL,iy (by lia),K];rfl)]
 rw[bF (z':=⟨.frame (fB (ag l) n1 none)::fs,a0:: .list (cb xs (ag h))::(junk++[.list ps])⟩) (by
  rw[SM]
  show(DT.bind ((hV 39).E (np (aH kZ 1)) _) _).eval=_
  refine f9 (a:=(.none,⟨.frame (fB (ag l) n1 none)::fs,a0:: .list (cb xs (ag h))::(junk++[.list ps])⟩)) rfl ?_
  rw[Qk]
  show(DT.bind (DT.bind (DT.bind (cG S1 (.obj n1) (.int 0) _) _) _) _).eval=_
  refine f9 (a:=([.obj 1, .str (ag h)],⟨.frame (fB (ag l) n1 none)::fs,a0:: .list (xs)::(junk++[.list ps])⟩)) ?_ ?_
  ·show(cO S1 ge (.top 794) [.obj 1, .str (ag h)] _).eval=_
   rw[Ql,W.ok (by lia) (λq V=>by have:=am.txt q V;lia) (by lia)];rfl
  ·refine f9 (a:=([.str (ag h)],⟨.frame (fB (ag l) n1 none)::fs,a0:: .list (xs)::(junk++[.list ps])⟩)) rfl ?_
   refine f9 rfl (Om (p:= .str (ag h)) (r:=t.map λp=>U.str (ag p)) ?_ Y)
   exact(rJ (a0:=a0) (c:= .gone)).1)]
 have run:=uH (asg:=tD) (b:=tE) (l:=n1+1) (qs:=qs) (λj=>⟨.frame (fB (ag l) n1 (tF t j))::fs,a0:: .list ((t.take j).foldl jl (cb xs (ag h)))::(junk++[.list ps, .list qs])⟩) (λj=>by
  show(a0::AO.list _::(junk++[.list ps, .list qs]))[(a0::AO.list (xs)::junk).length+1]?=_
  exact(rJ (a0:=a0) (a:=AO.list (xs)) (b:= .list ps) (c:= .list qs) (junk:=junk)).2.2) (λj x N=>by
  obtain⟨p,hp,rfl⟩:=J6 N
  have M:=Mg (List.mem_of_getElem? hp)
  have hb:=Bd.fold (t.take j) L
  have O:=J7 t j
  have B:=hb.len
  have G:=hb.txt
  refine⟨_,by rw[Qn];rfl, ?_⟩
  have H:tF t (j+1)=some (ag p):=by show some (ag (t.getD j []))=_;simp[List.getD,hp]
  rw[H,F8 hp]
  have J:=Z.fold (t:=t.take j)
  refine(DT.aQ Qo ?_).trans ?_
  ·rw[bq (show((t.take j).foldl jl (cb xs (ag h))).length<=1000000 by rw[J.len];lia),iy (by lia),Aw,(show eE ((t.take j).foldl jl (cb xs (ag h))++[b_ "invalid-codepoint"]) (ag (65533::p))=true from(J.snoc (.err 0)).ok (by rw[List.length_append];show _+1<=_;lia) (λq V=>by
    rcases List.mem_append.mp V with V|V
    ·have:=G q V;lia
    ·rcases List.mem_singleton.mp V with V;cases V) (by rw[List.length_cons];lia))];rfl
  ·rw[Aw];rfl) 3000 0 (by rw[List.length_map];lia) (Nat.zero_le _)
 rw[bF (z':=⟨.frame (fB (ag l) n1 (tF t t.length))::fs,a0:: .list (t.foldl jl (cb xs (ag h)))::(junk++[.list ps, .list qs])⟩) (by
  rw[SN]
  show(DT.bind ((hV 39).E (vW lX) _) _).eval=_
  refine f9 (a:=(.obj (n1+1),⟨.frame (fB (ag l) n1 none)::fs,a0:: .list (cb xs (ag h))::(junk++[.list ps, .list qs])⟩)) ?_ ?_
  ·show(srcOf (.obj (n1+1)) (λsrc=>cQ tD tE src 3000 0) _).eval=_
   rw[Oo (ps:=qs) ((rJ (a0:=a0) (a:=AO.list (xs)) (b:= .list ps) (c:= .list qs) (junk:=junk)).2.2)]
   have run':=run
   rw[List.length_map,List.take_length]at run'
   exact run'
  ·rw[Qm,Mj (ps:=ps) ((rJ (a0:=a0) (a:=AO.list (xs)) (b:= .list ps) (c:= .gone) (junk:=junk)).1) Y (by show 1<=ps.length;rw[List.length_cons];lia)]
   refine congrArg some (Prod.ext (congrArg U.obj ?_) (congrArg (ES.mk _) ?_))
   ·show(a0::AO.list (cb xs (ag h))::(junk++[.list ps])).length=n1+1
    rw[List.length_cons,List.length_cons,List.length_append];rfl
   ·show a0::AO.list _::(junk++[.list ps])++[.list qs]=_
    rw[List.cons_append,List.cons_append,List.append_assoc];rfl)]
 rfl
noncomputable abbrev bB(n:Nat):IH:=bM S1 fG 3000 n (aW 813).scope [("cut",0)]
noncomputable def dA:List Stmt:=(aW 813).body
noncomputable def j9:Stmt:=aH dA 2
noncomputable def fy(i:Nat):Stmt:=aH (dY j9) i
noncomputable abbrev ed(i:Nat):EM FL:=(bB 39).St (fy i)
structure DC where
 T:Str
 low:Str
 tu:U
 ta:U
 c:Int
noncomputable def fD(C:DC)(pl:Int)(m:List (Str×U)):List (Str×U):=("text", .str C.T)::("low", .str C.low)::("turns",C.tu)::("tags",C.ta)::("row", .obj 1)::("place", .int pl)::m
noncomputable def mD(m:Option (Int×Int×Option Str)):List (Str×U):=match m with
 |none=>[]
 |some (b,e,none)=>[("begin", .int b),("behind", .int e)]
 |some (b,e,some s)=>[("begin", .int b),("behind", .int e),("inside", .str s)]
noncomputable def mE(b e:Int)(o:Option Str):List (Str×U):=("begin", .int b)::("behind", .int e)::match o with|none=>[]|some s=>[("inside", .str s)]
noncomputable def mS(b e:Int)(s:Str):List (Str×U):=[("begin", .int b),("behind", .int e),("inside", .str s)]
noncomputable def hW:Option (Int×Int×Option Str)->Option Str
 |some (_,_,o)=>o
 |none=>none
noncomputable def zD(C:DC)(pl:Int)(m:List (Str×U))(xs:List U)(junk:List AO):ES:=⟨[.frame (fD C pl m)], .cell (some (.int C.c)):: .list xs::junk⟩
noncomputable def jI:U->EM Unit:=bv S1 (aW 813).scope [("cut",0)] (bB 39).E (ni j9)
noncomputable def ff:EM FL:=aB (bB 39).St (dY j9)
theorem vB:dY j9=[fy 0,fy 1,fy 2,fy 3,fy 4,fy 5,fy 6,fy 7]:=by kernel_rfl
noncomputable def fz(p:Int×Int):U:= .dat (.tuple [.int p.1, .int p.2])
section
variable{C:DC}{pl b e:Int}{s:Str}{xs:List U}{junk:List AO}{m:Option (Int×Int×Option Str)}{o:Option Str}
theorem Qp:jI (fz (b,e)) (zD C pl (mD m) xs junk)= .leaf ((),zD C pl (mE b e (hW m)) xs junk):=by
 rcases m with _|⟨U,V,_|s⟩<;>kernel_rfl
theorem Dd:ed 0 (zD C pl (mE b e o) xs junk)= .test (decide (C.c<b+9)) (.leaf (FL.brk,zD C pl (mE b e o) xs junk)) (.leaf (FL.next,zD C pl (mE b e o) xs junk)):=by cases o<;>kernel_rfl
theorem SO:ed 1 (zD C pl (mE b e o) xs junk)= .test (fits C.T.length) ((bd (cO S1 fG (.top 801) [.obj 1, .str (aS C.T pl b)]) λ_=>ak FL.next) (zD C pl (mE b e o) xs junk)) .fail:=by cases o<;>kernel_rfl
theorem BA{args:List U}{z:ES}:cO S1 fG (.top 801) args z=aL S1 ge 3000 40 801 args z:=by kernel_rfl
theorem SP:ed 3 (zD C pl (mE b e o) xs junk)= .test (fits C.low.length) (.leaf (FL.next,zD C pl (mS b e (aS C.low (b+8) (e-1))) xs junk)) .fail:=by cases o<;>kernel_rfl
theorem wU:ed 7 (zD C pl (mS b e s) xs junk)= .leaf (FL.next,zD C e (mS b e s) xs junk):=by kernel_rfl
noncomputable def Ut(xs:List U)(s:Str):List U:=cond (decide (s="\nb")) (xs++[b_ "attributes-in-end-tag"]) xs
theorem Qq:(ed 4 (zD C pl (mS b e s) xs junk)).run [true,true,true]=some ([decide (s="\nb"),true,fits xs.length],(FL.next,zD C pl (mS b e s) (xs++[b_ "attributes-in-end-tag"]) junk)):=by kernel_rfl
theorem Co:(ed 4 (zD C pl (mS b e s) xs junk)).run [false]=some ([decide (s="\nb")],(FL.next,zD C pl (mS b e s) xs junk)):=by kernel_rfl
theorem Qr:(ed 5 (zD C pl (mS b e s) xs junk)).run [true,true,true]=some ([decide (s="/"),true,fits xs.length],(FL.next,zD C pl (mS b e s) (xs++[b_ "self-closing-flag-on-end-tag"]) junk)):=by kernel_rfl
theorem Cp:(ed 5 (zD C pl (mS b e s) xs junk)).run [false]=some ([decide (s="/")],(FL.next,zD C pl (mS b e s) xs junk)):=by kernel_rfl
theorem Qs:(ed 6 (zD C pl (mS b e s) xs junk)).run [true,true,true,true,true]=some ([decide (s="\nb"),true,true,true,fits xs.length],(FL.next,zD C pl (mS b e s) (xs++[.tup [.str "end", .str "script", .obj (junk.length+1+2), .bool (decide (s="/"))]]) (junk++[.list [.str "b", .str ""], .list [.obj (junk.length+2)]]))):=by
 have h:(ed 6 (zD C pl (mS b e s) xs junk)).run [true,true,true,true,true]=some ([decide (s="\nb"),true,true,true,fits xs.length],(FL.next,zD C pl (mS b e s) (xs++[.tup [.str "end", .str "script", .obj (.cell (some (.int C.c)):: .list xs::(junk++[AO.list [.str "b", .str ""]])).length, .bool (decide (s="/"))]]) ((junk++[.list [.str "b", .str ""]])++[.list [.obj (.cell (some (.int C.c))::AO.list xs::junk).length]]))):=by kernel_rfl
 rw[h,List.append_assoc]
 simp only[List.length_cons,List.length_append,List.length_nil,Nat.zero_add]
 rfl
theorem Cq:(ed 6 (zD C pl (mS b e s) xs junk)).run [false,true,true,true]=some ([decide (s="\nb"),true,true,fits xs.length],(FL.next,zD C pl (mS b e s) (xs++[.tup [.str "end", .str "script", .obj (junk.length+2), .bool (decide (s="/"))]]) (junk++[.list []]))):=by kernel_rfl
end
noncomputable def i2:Stmt:=fy 2
noncomputable def n0:Stmt:=aH (dC i2) 0
noncomputable def Ej:Stmt:=aH (dC i2) 1
noncomputable def wa:PySem.Expr:=nI (rC n0) 0
noncomputable def o9:PySem.Expr:=nI (sx wa) 1
noncomputable def nq:PySem.Expr->PySem.Expr
 | .Subscript _ i _=>i
 |_=>E0
noncomputable def jm:List (Str×U):=[("/", .str "unexpected-EOF-after-solidus-in-tag"),(" ", .str "expected-attribute-name-but-got-eof"),("\n", .str "expected-attribute-name-but-got-eof"),("\nb", .str "eof-in-attribute-name")]
noncomputable def iM(k:Str):Option Nat:=if k="/"then some 5 else if k="\nb"then some 6 else if k=" "then some 4 else if k="\n"then some 4 else none
section
variable{C:DC}{pl b e:Int}{s k:Str}{xs:List U}{junk:List AO}{o:Option Str}{fs os:List AO}
theorem De:ed 2 (zD C pl (mE b e o) xs junk)= .test (decide (C.c<e)) (aB (bB 38).St (dC i2) (zD C pl (mE b e o) xs junk)) (.leaf (FL.next,zD C pl (mE b e o) xs junk)):=by cases o<;>kernel_rfl
theorem SQ:dC i2=[n0,Ej]:=by kernel_rfl
theorem Qt:(bB 38).St n0=bd ((bB 37).E (np n0)) λ_=>ak FL.next:=by kernel_rfl
theorem Qu:(bB 37).E (np n0) (zD C pl (mE b e o) xs junk)=(bd (bd ((bB 36).E wa) λv=>ak [v]) λvs=>cO S1 fG (.bi .append) (.obj 1::vs)) (zD C pl (mE b e o) xs junk):=by cases o<;>kernel_rfl
theorem Qv:(bB 36).E wa (zD C pl (mE b e o) xs junk)=(bd (bd (bd ((bB 35).E o9) λv=>ak [v]) λvs=>ak (U.str "error"::vs)) λvs=>aE (fits vs.length) (ak (.tup vs)) ae) (zD C pl (mE b e o) xs junk):=by cases o<;>kernel_rfl
theorem Qw:(bB 35).E o9 (zD C pl (mE b e o) xs junk)=(bd (cO S1 fG (.top 782) []) λv=>bd ((bB 34).E (nq o9)) λk=>cG S1 v k) (zD C pl (mE b e o) xs junk):=by cases o<;>kernel_rfl
theorem Qx:(bB 34).E (nq o9) (zD C pl (mE b e o) xs junk)= .test (fits C.low.length) (.leaf (.str (aS C.low (b+8) C.c),zD C pl (mE b e o) xs junk)) .fail:=by cases o<;>kernel_rfl
theorem Oq:cO S1 fG (.top 782) [] ⟨fs,os⟩= .leaf (.obj os.length,⟨fs,os++[.dict jm]⟩):=by kernel_rfl
theorem Qy:(bB 38).St Ej (zD C pl (mE b e o) xs junk)= .leaf (FL.ret (.obj 1),zD C pl (mE b e o) xs junk):=by cases o<;>kernel_rfl
theorem Qz{w:U}:cO S1 fG (.bi .append) [.obj 1,w] (zD C pl (mE b e o) xs junk)= .test (fits xs.length) (.leaf (.none,zD C pl (mE b e o) (xs++[w]) junk)) .fail:=by kernel_rfl
theorem Os{z:ES}{l:Nat}{es:List (Str×U)}{a:U}(h:z.os[l]?=some (.dict es))(hk:lk k es=some a):(cG S1 (.obj l) (.str k) z).eval=some (a,z):=by
 have e:cG S1 (.obj l) (.str k) z=get' l (λo=>AO.casesOn o (λ_=>ae) (λes=>bl (lk k es) ak) (λ_ _=>ae) (λ_=>ae) (λ_=>ae) ae ae) z:=rfl
 rw[e,mW h]
 show(bl (lk k es) ak z).eval=_
 unfold bl
 rw[hk];rfl
theorem Ot{n:Nat}(hk:iM k=some n):lk k jm=some (.str (eZ n)):=by
 unfold iM at hk
 by_cases U:k="/"
 ·rw[if_pos U]at hk;cases hk;rw[U];kernel_rfl
 ·rw[if_neg U]at hk
  by_cases q2:k="\nb"
  ·rw[if_pos q2]at hk;cases hk;rw[q2];kernel_rfl
  ·rw[if_neg q2]at hk
   by_cases q3:k=" "
   ·rw[if_pos q3]at hk;cases hk;rw[q3];kernel_rfl
   ·rw[if_neg q3]at hk
    by_cases V:k="\n"
    ·rw[if_pos V]at hk;cases hk;rw[V];kernel_rfl
    ·rw[if_neg V]at hk;cases hk
theorem J8{z:ES}{l n:Nat}(h:z.os[l]?=some (.dict jm))(hk:iM k=some n):(cG S1 (.obj l) (.str k) z).eval=some (.str (eZ n),z):=Os h (Ot hk)
theorem gu{α:Type}{a b:DT α}:(DT.test true a b).eval=a.eval:=rfl
theorem wV{m:EM U}{z z1:ES}{w:U}(h:(m z).eval=some (w,z1)):((bd m λ_=>ak FL.next) z).eval=some (FL.next,z1):=DT.aC h
theorem SR{α:Type}{m:EM U}{g:List U->EM α}{z z1:ES}{a w:U}{r:Option (α×ES)}(h:(m z).eval=some (w,z1))(h2:(g [a,w] z1).eval=r):((bd (bd m λv=>ak [v]) λvs=>g (a::vs)) z).eval=r:=
 (DT.aC (a:=([w],z1)) (DT.aC h)).trans h2
theorem SS{m:EM U}{z z1:ES}{a w:U}(h:(m z).eval=some (w,z1)):((bd (bd (bd m λv=>ak [v]) λvs=>ak (a::vs)) λvs=>aE (fits vs.length) (ak (U.tup vs)) ae) z).eval=some (U.tup [a,w],z1):=
 (DT.aC (a:=([a,w],z1)) ((DT.aC (a:=([w],z1)) (DT.aC h)).trans rfl)).trans rfl
theorem pM{α:Type}{m1 m2:EM U}{g:U->U->EM α}{z z1 W:ES}{v w:U}{r:Option (α×ES)}(V:(m1 z).eval=some (v,z1))(h2:(m2 z1).eval=some (w,W))(h3:(g v w W).eval=r):((bd m1 λv=>bd m2 λk=>g v k) z).eval=r:=
 (DT.aC V).trans ((DT.aC h2).trans h3)
theorem Ou{n:Nat}(hf:fits C.low.length=true)(hx:fits xs.length=true)(hk:iM (aS C.low (b+8) C.c)=some n)(U:C.c<e):
 (ed 2 (zD C pl (mE b e o) xs junk)).eval=some (FL.ret (.obj 1),zD C pl (mE b e o) (xs++[b_ (eZ n)]) (junk++[.dict jm])):=by
 rw[De,decide_eq_true U,SQ,gu]
 have e1:((bB 35).E o9 (zD C pl (mE b e o) xs junk)).eval=some (.str (eZ n),zD C pl (mE b e o) xs (junk++[.dict jm])):=by
  rw[Qw]
  refine pM (z1:=zD C pl (mE b e o) xs (junk++[.dict jm])) (v:= .obj (junk.length+2)) (by unfold zD;rw[Oq];rfl) (by rw[Qx,hf,gu];rfl) (J8 ?_ hk)
  show(junk++[.dict jm])[junk.length]?=_
  simp
 have e3:((bB 37).E (np n0) (zD C pl (mE b e o) xs junk)).eval=some (.none,zD C pl (mE b e o) (xs++[b_ (eZ n)]) (junk++[.dict jm])):=by
  rw[Qu]
  refine SR (w:=b_ (eZ n)) (z1:=zD C pl (mE b e o) xs (junk++[.dict jm])) (by rw[Qv];exact SS e1) ?_
  rw[Qz,hx,gu];rfl
 exact(bF (by rw[Qt];exact wV e3)).trans (mY (congrArg DT.eval Qy))
noncomputable def gz(s:Str):List RI:=if s="\nb"then[.err 2, .fin (some [98]) false]else if s="/"then[.err 3, .fin none true]else[.fin none false]
theorem Mk{row:List RI}(W:RJ junk xs row)(hx:xs.length<=900000):
 ∃Y more,RJ (junk++more) Y (row++gz s)/\(aB (bB 39).St [fy 4,fy 5,fy 6,fy 7] (zD C pl (mS b e s) xs junk)).eval=some (FL.next,zD C e (mS b e s) Y (junk++more)):=by
 have f0:fits xs.length=true:=bq (by lia)
 have f1:∀a:U,fits (xs++[a]).length=true:=λa=>bq (by rw[List.length_append];show _+1<=_;lia)
 unfold gz
 by_cases X:s="\nb"
 ·subst X
  refine⟨_,[.list [.str "b", .str ""], .list [.obj (junk.length+2)]], ?_,(bF (DT.aQ Qq (by rw[f0];rfl))).trans ((bF (DT.aQ Cp rfl)).trans ((bF (DT.aQ Qs (by rw[f1];rfl))).trans ((bF (congrArg DT.eval wU)).trans rfl)))⟩
  rw[if_pos rfl]
  have V:RJ (junk++[.list [.str "b", .str ""], .list [.obj (junk.length+2)]]) (xs++[b_ "attributes-in-end-tag"]) (row++[.err 2]):=(W.mono _).snoc (.err 2)
  have h2:=V.snoc (.fin (some [98]) false (junk.length+1) ⟨junk.length,by simp,by simp;rfl⟩)
  rw[List.append_assoc row]at h2
  exact h2
 ·rw[if_neg X]
  have n1:decide (s="\nb")=false:=decide_eq_false X
  by_cases q2:s="/"
  ·subst q2
   refine⟨_,[.list []], ?_,(bF (DT.aQ Co rfl)).trans ((bF (DT.aQ Qr (by rw[f0];rfl))).trans ((bF (DT.aQ Cq (by rw[f1];rfl))).trans ((bF (congrArg DT.eval wU)).trans rfl)))⟩
   rw[if_pos rfl]
   have V:RJ (junk++[.list []]) (xs++[b_ "self-closing-flag-on-end-tag"]) (row++[.err 3]):=(W.mono _).snoc (.err 3)
   have h2:=V.snoc (.fin none true junk.length (by simp[v_]))
   rw[List.append_assoc row]at h2
   exact h2
  ·rw[if_neg q2]
   have Z:decide (s="/")=false:=decide_eq_false q2
   refine⟨_,[.list []], ?_,(bF (DT.aQ Co (by rw[n1]))).trans ((bF (DT.aQ Cp (by rw[Z]))).trans ((bF (DT.aQ Cq (by rw[n1,f0]))).trans ((bF (congrArg DT.eval wU)).trans rfl)))⟩
   rw[Z]
   exact(W.mono _).snoc (.fin none false junk.length (by simp[v_]))
end
theorem mZ{x:Str}{a b:Nat}:(aV x a b).length<=x.length:=by
 show((x.cps.toList.take b).drop a).toArray.size<=_
 have:x.cps.toList.length=x.length:=Array.length_toList
 simp[List.length_take,this]
 lia
noncomputable def lY(asg:U->EM Unit)(b:EM FL):List U->EM FL
 |[]=>ak .next
 |x::r=>bd (asg x) λ_=>bd b (fu (lY asg b r))
theorem Ov{asg:U->EM Unit}{b:EM FL}{rest:List U}:∀{pre:List U} {n:Nat},rest.length<n->cQ asg b (.fixed (pre++rest)) n pre.length=lY asg b rest:=by
 induction rest with
 |nil=>
  intro pre n h
  cases n with
  |zero=>exact absurd h (Nat.not_lt_zero _)
  |succ n=>
   funext z
   show(match(pre++[])[pre.length]?with
    |none=>ak .next
    |some x=>bd (asg x) λ_=>bd b (fu (cQ asg b (.fixed (pre++[])) n (pre.length+1))):EM FL) z=_
   rw[List.append_nil,List.getElem?_eq_none (Nat.le_refl _)];rfl
 |cons x r ih=>
  intro pre n h
  cases n with
  |zero=>exact absurd h (Nat.not_lt_zero _)
  |succ n=>
   funext z
   show(match(pre++x::r)[pre.length]?with
    |none=>ak .next
    |some y=>bd (asg y) λ_=>bd b (fu (cQ asg b (.fixed (pre++x::r)) n (pre.length+1))):EM FL) z=_
   rw[List.getElem?_append_right (Nat.le_refl _),Nat.sub_self]
   have e:=ih (pre:=pre++[x]) (n:=n) (Nat.lt_of_succ_lt_succ h)
   rw[List.append_assoc,List.length_append]at e
   show(bd (asg x) λ_=>bd b (fu (cQ asg b (.fixed (pre++([x]++r))) n (pre.length+[x].length)))) z=_
   rw[e];rfl
noncomputable def cr(C:DC):List (Int×Int)->Int->List RI->Bool×Int×List RI
 |[],p,R=>(false,p,R)
 |t::r,p,R=>if C.c<t.1+9 then(false,p,R)else if C.c<t.2 then(true,p,feed R (cps (aS C.T p t.1))++[.err ((iM (aS C.low (t.1+8) C.c)).getD 0)])else cr C r t.2 (feed R (cps (aS C.T p t.1))++gz (aS C.low (t.1+8) (t.2-1)))
theorem zL{s:Str}:(gz s).length<=2/\∀q,RI.text q∉gz s:=by
 unfold gz
 split
 ·exact⟨by decide,λq h=>by simp at h⟩
 ·split
  ·exact⟨by decide,λq h=>by simp at h⟩
  ·exact⟨by decide,λq h=>by simp at h⟩
theorem Bd.its{n:Nat}{row its:List RI}(h:Bd n row)(h2:its.length<=2)(h3:∀q,RI.text q∉its):Bd (n+1) (row++its):=
 ⟨by rw[List.length_append];have:=h.len;lia,λq U=>(List.mem_append.mp U).elim (λU=>by have:=h.txt q U;lia) λU=>absurd U (h3 q)⟩
theorem Bd.mono{n m:Nat}{row:List RI}(h:Bd n row)(hm:n<=m):Bd m row:=⟨by have:=h.len;lia,λq U=>by have:=h.txt q U;lia⟩
theorem Bd.feed{n:Nat}{row:List RI}(h:Bd n row)(l:List Nat):Bd (n+l.length) (feed row l):=by
 obtain⟨a,t,hs⟩:=oA 0 l
 rw[qS l row a t hs,<-ul l a t hs,<-Nat.add_assoc]
 exact Bd.fold t h.first
section
variable{C:DC}{pl b e:Int}{s:Str}{xs:List U}{junk:List AO}{o:Option Str}{n:Nat}{row:List RI}
theorem A2(W:RJ junk xs row)(hb:Bd n row)(hT:C.T.length<=2000)(hn:n<=38000):
 ∃U more,RJ (junk++more) U (feed row (cps (aS C.T pl b)))/\(ed 1 (zD C pl (mE b e o) xs junk)).eval=some (FL.next,zD C pl (mE b e o) U (junk++more)):=by
 have hl:(cps (aS C.T pl b)).length<=2000:=by rw[bw];exact Nat.le_trans mZ hT
 obtain⟨U,ps,qs,V,h2⟩:=zK W hb (l:=cps (aS C.T pl b)) (by lia) hl [.frame (fD C pl (mE b e o))] (.cell (some (.int C.c)))
 refine⟨U,[.list ps, .list qs],V.mono _, ?_⟩
 rw[SO,bq (show C.T.length<=1000000 by lia),gu]
 refine wV (w:= .none) ?_
 rw[BA]
 exact h2
theorem Ow(h:C.c<b+9):(ff (zD C pl (mE b e o) xs junk)).eval=some (FL.brk,zD C pl (mE b e o) xs junk):=by
 unfold ff
 rw[vB]
 refine DT.aC (a:=(FL.brk,zD C pl (mE b e o) xs junk)) ?_
 show(ed 0 _).eval=_
 rw[Dd,decide_eq_true h,gu];rfl
theorem Df(h:¬C.c<b+9){l:List Stmt}:(aB (bB 39).St (fy 0::l) (zD C pl (mE b e o) xs junk)).eval=(aB (bB 39).St l (zD C pl (mE b e o) xs junk)).eval:=by
 refine bF ?_
 show(ed 0 _).eval=_
 rw[Dd,decide_eq_false h];rfl
theorem Ox(W:RJ junk xs row)(hb:Bd n row)(hT:C.T.length<=2000)(hL:C.low.length<=2000)(hn:n<=38000)(h:¬C.c<b+9)(X:C.c<e){k:Nat}(hk:iM (aS C.low (b+8) C.c)=some k):
 ∃U more,RJ (junk++more) U (feed row (cps (aS C.T pl b))++[.err k])/\(ff (zD C pl (mE b e o) xs junk)).eval=some (FL.ret (.obj 1),zD C pl (mE b e o) U (junk++more)):=by
 obtain⟨U,more,V,h2⟩:=A2 (b:=b) (e:=e) (o:=o) (pl:=pl) W hb hT hn
 have hf:=(hb.feed (cps (aS C.T pl b))).len
 have hl:(cps (aS C.T pl b)).length<=2000:=by rw[bw];exact Nat.le_trans mZ hT
 refine⟨U++[b_ (eZ k)],more++[.dict jm],by rw[<-List.append_assoc];exact(V.mono _).snoc (.err k), ?_⟩
 unfold ff
 rw[vB]
 refine(Df h).trans ((bF h2).trans (mY ?_))
 rw[<-List.append_assoc]
 exact Ou (bq (by lia)) (bq (by rw[V.len];lia)) hk X
theorem Oy(X:RJ junk xs row)(hb:Bd n row)(hT:C.T.length<=2000)(hL:C.low.length<=2000)(hn:n<=38000)(h:¬C.c<b+9)(Y:¬C.c<e):
 ∃U more,RJ (junk++more) U (feed row (cps (aS C.T pl b))++gz (aS C.low (b+8) (e-1)))/\(ff (zD C pl (mE b e o) xs junk)).eval=some (FL.next,zD C e (mS b e (aS C.low (b+8) (e-1))) U (junk++more)):=by
 obtain⟨W,more,V,h2⟩:=A2 (b:=b) (e:=e) (o:=o) (pl:=pl) X hb hT hn
 have hf:=(hb.feed (cps (aS C.T pl b))).len
 have hl:(cps (aS C.T pl b)).length<=2000:=by rw[bw];exact Nat.le_trans mZ hT
 obtain⟨U,jZ,h3,h4⟩:=Mk (C:=C) (pl:=pl) (b:=b) (e:=e) (s:=aS C.low (b+8) (e-1)) V (by rw[V.len];lia)
 refine⟨U,more++jZ,by rw[<-List.append_assoc];exact h3, ?_⟩
 unfold ff
 rw[vB]
 refine(Df h).trans ((bF h2).trans ((bF (z':=zD C pl (mE b e o) W (junk++more)) ?_).trans ((bF (z':=zD C pl (mS b e (aS C.low (b+8) (e-1))) W (junk++more)) ?_).trans ?_)))
 ·show(ed 2 _).eval=_
  rw[De,decide_eq_false Y];rfl
 ·show(ed 3 _).eval=_
  rw[SP,bq (show C.low.length<=1000000 by lia),gu];rfl
 ·rw[<-List.append_assoc];exact h4
noncomputable def wb(C:DC)(ts:List (Int×Int)):Prop:=∀t∈ts,¬C.c<t.1+9->C.c<t.2->(iM (aS C.low (t.1+8) C.c)).isSome=true
theorem Ml(hT:C.T.length<=2000)(hL:C.low.length<=2000):∀(ts:List (Int×Int)) {pl:Int} {m:Option (Int×Int×Option Str)} {xs:List U} {junk:List AO} {n:Nat} {row:List RI},wb C ts->RJ junk xs row->Bd n row->n+ts.length*(C.T.length+1)<=36000->
 ∃fl J W more,RJ (junk++more) W (cr C ts pl row).2.2/\Bd (n+ts.length*(C.T.length+1)+2) (cr C ts pl row).2.2/\(lY jI ff (ts.map fz) (zD C pl (mD m) xs junk)).eval=some (fl,zD C (cr C ts pl row).2.1 (mD J) W (junk++more))/\fl=cond (cr C ts pl row).1 (FL.ret (.obj 1)) FL.next:=by
 intro ts
 induction ts with
 |nil=>exactλ{pl m xs junk n row} _ Y hb _=>⟨_,m,xs,[],by rw[List.append_nil];exact Y,hb.mono (by lia),by rw[List.append_nil];rfl,rfl⟩
 |cons t ts ih=>
  intro pl m xs junk n row K Y hb hn
  obtain⟨b,e⟩:=t
  have hlen:((b,e)::ts).length*(C.T.length+1)=(C.T.length+1)+ts.length*(C.T.length+1):=by rw[List.length_cons,Nat.succ_mul];lia
  rw[hlen]at hn⊢
  have hl:(cps (aS C.T pl b)).length<=C.T.length:=by rw[bw];exact mZ
  have step:∀{fl:FL} {z1:ES},(ff (zD C pl (mE b e (hW m)) xs junk)).eval=some (fl,z1)->(lY jI ff (((b,e)::ts).map fz) (zD C pl (mD m) xs junk)).eval=(fu (lY jI ff (ts.map fz)) fl z1).eval:=λh=>by
   show((bd (jI (fz (b,e))) λ_=>bd ff (fu (lY jI ff (ts.map fz)))) (zD C pl (mD m) xs junk)).eval=_
   exact(DT.aC (congrArg DT.eval Qp)).trans (DT.aC h)
  unfold cr
  by_cases X:C.c<b+9
  ·rw[if_pos X]
   refine⟨_,some (b,e,hW m),xs,[],by rw[List.append_nil];exact Y,hb.mono (by lia), ?_,rfl⟩
   rw[step (Ow X),List.append_nil]
   have:mD (some (b,e,hW m))=mE b e (hW m):=by cases hW m<;>rfl
   rw[this];rfl
  ·rw[if_neg X]
   by_cases Z:C.c<e
   ·rw[if_pos Z]
    obtain⟨k,hk⟩:=Option.isSome_iff_exists.mp (K (b,e) (.head _) X Z)
    obtain⟨W,more,V,h2⟩:=Ox (pl:=pl) (o:=hW m) Y hb hT hL (by lia) X Z hk
    refine⟨_,some (b,e,hW m),W,more, ?_, ?_, ?_,rfl⟩
    ·dsimp only;rw[hk];exact V
    ·exact(Bd.its (hb.feed _) (Nat.le_of_ble_eq_true rfl) (λq h=>by simp at h)).mono (by lia)
    ·rw[step h2]
     have:mD (some (b,e,hW m))=mE b e (hW m):=by cases hW m<;>rfl
     rw[this];rfl
   ·rw[if_neg Z]
    obtain⟨G,more,V,h2⟩:=Oy (pl:=pl) (o:=hW m) Y hb hT hL (by lia) X Z
    have L:Bd (n+(C.T.length+1)) (feed row (cps (aS C.T pl b))++gz (aS C.low (b+8) (e-1))):=(Bd.its (hb.feed _) zL.1 zL.2).mono (by lia)
    obtain⟨fl,J,W,jZ,g1,g2,g3,N⟩:=ih (pl:=e) (m:=some (b,e,some (aS C.low (b+8) (e-1)))) (λt ht=>K t (.tail _ ht)) V L (by lia)
    refine⟨fl,J,W,more++jZ,by rw[<-List.append_assoc];exact g1,g2.mono (by lia), ?_,N⟩
    rw[step h2,<-List.append_assoc]
    exact g3
end
noncomputable def Mm:PySem.Expr->PySem.Expr
 | .Subscript v _ _=>v
 |_=>E0
noncomputable def nM:PySem.Expr->PySem.Expr
 | .Compare l _ _ _=>l
 |_=>E0
noncomputable def fK:Stmt:=aH dA 4
noncomputable def c4:PySem.Expr:=Mm (nM (dp fK))
noncomputable def Ek:Scope:=cw (fp c4).2.2.2.2 (aW 813).scope
noncomputable def El:CL:=bW [("cut",0)] (fp c4).2.2.2.2.names
noncomputable def xW:IH:=bM S1 fG 3000 36 Ek El
noncomputable def qm:U->EM Unit:=bv S1 Ek El xW.E (fp c4).2.1
noncomputable def tH:EM Bool:=eB xW.T (fp c4).2.2.2.1
noncomputable def tI:EM U:=xW.E (fp c4).1
noncomputable def Uu(p:Option (Int×Int)):List (Str×U):=match p with|none=>[]|some (d,z)=>[("done", .int d),("zone", .int z)]
noncomputable def zC(C:DC)(pl:Int)(m:List (Str×U))(xs:List U)(junk:List AO)(p:Option (Int×Int)):ES:=⟨[.frame (Uu p), .frame (fD C pl m)], .cell (some (.int C.c)):: .list xs::junk⟩
section
variable{C:DC}{pl d z:Int}{xs:List U}{junk:List AO}{m:Option (Int×Int×Option Str)}{ml:List (Str×U)}{p:Option (Int×Int)}{ds:List PyData}
theorem QA:(bB 40).St (aH dA 3) (zD C pl (mD m) xs junk)= .test (fits C.T.length) ((bd (cO S1 fG (.top 801) [.obj 1, .str (aS C.T pl C.c)]) λ_=>ak FL.next) (zD C pl (mD m) xs junk)) .fail:=by
 rcases m with _|⟨U,V,_|s⟩<;>kernel_rfl
theorem QB:(bB 40).St (aH dA 5) (zD C pl (mD m) xs junk)= .leaf (FL.ret (.obj 1),zD C pl (mD m) xs junk):=by
 rcases m with _|⟨U,V,_|s⟩<;>kernel_rfl
theorem QC:qm (fz (d,z)) (zC C pl ml xs junk p)= .leaf ((),zC C pl ml xs junk (some (d,z))):=by
 rcases p with _|⟨U,z'⟩<;>kernel_rfl
theorem QD:tH (zC C pl ml xs junk (some (d,z)))= .test (decide (d<=C.c)) (.leaf (true,zC C pl ml xs junk (some (d,z)))) (.leaf (false,zC C pl ml xs junk (some (d,z)))):=by kernel_rfl
theorem QE:tI (zC C pl ml xs junk (some (d,z)))= .leaf (.int z,zC C pl ml xs junk (some (d,z))):=by kernel_rfl
theorem Cr:(bB 40).St fK=bd ((bB 39).T (dp fK)) λc=>aE c (aB (bB 39).St (dC fK)) (aB (bB 39).St (gb fK)):=by
 rw[Cc (s:=fK) (by kernel_rfl)];exact ND
theorem QF:(bB 39).T (dp fK) (zD C pl (mD m) xs junk)=(bd (bd ((bB 37).E c4) λv=>cG S1 v (.int (-1))) λv=>ft .Eq v (.int 2)) (zD C pl (mD m) xs junk):=by
 rcases m with _|⟨U,V,_|s⟩<;>kernel_rfl
theorem QG(hd:C.tu= .dat (.list ds)):(bB 37).E c4 (zD C pl (mD m) xs junk)=(bd (eP [] (dG qm tH tI (junk.length+2) (.fixed (ds.map bZ)) 3000 0)) λ_=>ak (.obj (junk.length+2))) (zD C pl (mD m) xs (junk++[.list []])):=by
 rcases C with⟨T,low,tu,ta,c⟩
 cases (hd:tu=_)
 rcases m with _|⟨U,V,_|s⟩<;>kernel_rfl
theorem QH:(aB (bB 39).St (dC fK) (zD C pl (mD m) xs junk)).run [true,true]=some ([true,fits xs.length],(FL.next,zD C pl (mD m) (xs++[b_ "eof-in-script-in-script"]) junk)):=by
 rcases m with _|⟨U,V,_|s⟩<;>kernel_rfl
theorem QI:(aB (bB 39).St (gb fK) (zD C pl (mD m) xs junk))= .leaf (FL.next,zD C pl (mD m) xs junk):=by
 rcases m with _|⟨U,V,_|s⟩<;>kernel_rfl
theorem vC{l:Nat}{ys:List U}{y:U}{z:ES}(h:z.os[l]?=some (.list ys))(hf:fits ys.length=true):(app l y z).eval=some ((),⟨z.fs,z.os.set l (.list (ys++[y]))⟩):=by
 unfold app
 rw[iw h]
 show(DT.test (fits ys.length) _ _).eval=_
 rw[hf];rfl
theorem Mn{α:Type}{a b c U:α}{l:List α}:(a::b::(l++[c])).set (l.length+2) U=a::b::(l++[U]):=by
 simp[List.set_append]
theorem A3{α:Type}{a b c:α}{l:List α}:(a::b::(l++[c]))[l.length+2]?=some c:=by simp
noncomputable def bX(c:Int)(l:List (Int×Int)):List Int:=(l.filter λt=>decide (t.1<=c)).map (·.2)
noncomputable def zI(C:DC)(pl:Int)(ml:List (Str×U))(xs:List U)(junk:List AO)(tu:List (Int×Int))(i:Nat):ES:=zC C pl ml xs (junk++[.list ((bX C.c (tu.take i)).map U.int)]) (match i with|0=>none|i+1=>tu[i]?)
theorem Hy{tu:List (Int×Int)}(hn:tu.length<3000):(dG qm tH tI (junk.length+2) (.fixed (tu.map fz)) 3000 0 (zI C pl ml xs junk tu 0)).eval=some ((),zI C pl ml xs junk tu tu.length):=by
 have r:=zx (asg:=qm) (t:=tH) (e:=tI) (l:=junk.length+2) (xs:=tu.map fz) (zI C pl ml xs junk tu) (λi x hx=>by
  rw[List.getElem?_map]at hx
  cases hp:tu[i]?with
  |none=>rw[hp]at hx;cases hx
  |some q=>
   rw[hp]at hx
   cases hx
   obtain⟨d,z⟩:=q
   have e1:zI C pl ml xs junk tu (i+1)=zC C pl ml xs (junk++[.list ((bX C.c (tu.take (i+1))).map U.int)]) (some (d,z)):=by unfold zI;rw[show(match i+1 with|0=>none|i+1=>tu[i]?)=some (d,z)from hp]
   have e2:bX C.c (tu.take (i+1))=bX C.c (tu.take i)++(cond (decide (d<=C.c)) [z] []):=by
    unfold bX
    rw[List.take_add_one,hp,List.filter_append,List.map_append]
    show _++(List.filter _ [(d,z)]).map _=_
    cases q:decide (d<=C.c)<;>simp[q]
   refine⟨zC C pl ml xs (junk++[.list ((bX C.c (tu.take i)).map U.int)]) (some (d,z)),decide (d<=C.c),zC C pl ml xs (junk++[.list ((bX C.c (tu.take i)).map U.int)]) (some (d,z)), ?_, ?_,λhb=>⟨.int z,_,by rw[QE];rfl, ?_⟩,λhb=> ?_⟩
   ·show(qm (fz (d,z)) _).eval=_
    unfold zI
    rw[QC];rfl
   ·rw[QD]
    cases decide (d<=C.c)<;>rfl
   ·refine(vC (ys:=(bX C.c (tu.take i)).map U.int) A3 (bq ?_)).trans ?_
    ·have:=List.length_filter_le (λt:Int×Int=>decide (t.1<=C.c)) (tu.take i)
     unfold bX
     rw[List.length_map,List.length_map]
     have h2:(tu.take i).length<=tu.length:=List.length_take_le' ..
     lia
    ·rw[e1,e2,hb,List.map_append]
     show some ((),(⟨_,(_::_::(junk++[_])).set _ _⟩:ES))=_
     rw[Mn];rfl
   ·rw[e1,e2,hb]
    show _=zC _ _ _ _ (junk++[.list ((bX C.c (tu.take i)++[]).map U.int)]) _
    rw[List.append_nil]) 3000 0 (by rw[List.length_map];lia) (Nat.zero_le _)
 rw[List.length_map]at r
 exact r
end
noncomputable def kO(c:Int)(tu:List (Int×Int)):Int:=((bX c tu).getLast?).getD 0
noncomputable def sG(c:Int)(tu:List (Int×Int)):List RI:=cond (decide (kO c tu=2)) [.err 1] []
noncomputable def pN(C:DC)(tu ta:List (Int×Int)):List RI:=cond (cr C ta 0 []).1 (cr C ta 0 []).2.2 (feed (cr C ta 0 []).2.2 (cps (aS C.T (cr C ta 0 []).2.1 C.c))++sG C.c tu)
noncomputable def Uv(C:DC):List (Str×U):=[("text", .str C.T),("low", .str C.low),("turns",C.tu),("tags",C.ta)]
noncomputable def xX(C:DC):ES:=⟨[.frame (Uv C)],[.cell (some (.int C.c))]⟩
section
variable{C:DC}{pl:Int}{xs:List U}{junk:List AO}{m:Option (Int×Int×Option Str)}{ds:List PyData}
theorem Mo:(aW 813).body=[aH dA 0,aH dA 1,j9,aH dA 3,fK,aH dA 5]:=by kernel_rfl
theorem Oz:(aB (bB 40).St [aH dA 0,aH dA 1] (xX C)).eval=some (FL.next,zD C 0 (mD none) [] []):=by kernel_rfl
theorem OA(hd:C.ta= .dat (.list ds)):(bB 40).St j9 (zD C 0 (mD none) [] [])=cQ jI ff (.fixed (ds.map bZ)) 3000 0 (zD C 0 (mD none) [] []):=by
 rcases C with⟨T,low,tu,ta,c⟩
 cases (hd:ta=_)
 kernel_rfl
theorem OB:aL S1 fG 3000 40 813 [.str C.T, .str C.low,C.tu,C.ta, .int C.c] ⟨[],[]⟩=finish (aB (bB 40).St (aW 813).body (xX C)):=uh (fi:=aW 813) (cl:=[("cut",0)]) (bs:=[("text", .str C.T),("low", .str C.low),("turns",C.tu),("tags",C.ta),("cut", .int C.c)]) (z1:=⟨[.frame []],[.cell none]⟩) (by kernel_rfl) (by kernel_rfl) (by kernel_rfl) (by kernel_rfl)
theorem QJ{i:Int}{z:ES}:ft .Eq (.int i) (.int 2) z= .leaf (decide (i=2),z):=by kernel_rfl
theorem OC{c:Int}{tu:List (Int×Int)}(h:bX c tu≠[]):((bX c tu).map U.int).getLast?=some (.int (kO c tu)):=by
 unfold kO
 rw[List.getLast?_map]
 cases q:(bX c tu).getLast? with
 |none=>exact absurd (List.getLast?_eq_none_iff.mp q) h
 |some a=>rfl
theorem Hz{c:Int}{tu:List (Int×Int)}:(bX c tu).length<=tu.length:=by
 unfold bX
 rw[List.length_map]
 exact List.length_filter_le ..
theorem QK{tu:List (Int×Int)}(hd:C.tu= .dat (.list (eC tu)))(hn:tu.length<3000)(V:bX C.c tu≠[]):
 ((bB 39).T (dp fK) (zD C pl (mD m) xs junk)).eval=some (decide (kO C.c tu=2),zD C pl (mD m) xs (junk++[.list ((bX C.c tu).map U.int)])):=by
 rw[QF]
 have e0:((bB 37).E c4 (zD C pl (mD m) xs junk)).eval=some (.obj (junk.length+2),zD C pl (mD m) xs (junk++[.list ((bX C.c tu).map U.int)])):=by
  rw[QG hd]
  have r:=Hy (C:=C) (pl:=pl) (ml:=mD m) (xs:=xs) (junk:=junk) hn
  have e:(eC tu).map bZ=tu.map fz:=by unfold eC;rw[List.map_map];rfl
  rw[e]
  refine DT.aC (a:=((),zD C pl (mD m) xs (junk++[.list ((bX C.c tu).map U.int)]))) ?_
  refine(DT.aC r).trans ?_
  unfold zI
  rw[List.take_length];rfl
 refine(DT.aC ((DT.aC e0).trans (item_last (xs:=(bX C.c tu).map U.int) A3 (OC V) (bq ?_)))).trans ?_
 ·rw[List.length_map];have:=Hz (c:=C.c) (tu:=tu);lia
 ·exact congrArg DT.eval QJ
theorem SU{tu:List (Int×Int)}{row:List RI}(hd:C.tu= .dat (.list (eC tu)))(hn:tu.length<3000)(X:bX C.c tu≠[])(V:RJ junk xs row)(hx:row.length<=900000):
 ∃W more,RJ (junk++more) W (row++sG C.c tu)/\((bB 40).St fK (zD C pl (mD m) xs junk)).eval=some (FL.next,zD C pl (mD m) W (junk++more)):=by
 unfold sG
 have e1:=QK (pl:=pl) (m:=m) (xs:=xs) (junk:=junk) hd hn X
 cases q:decide (kO C.c tu=2)with
 |true=>
  refine⟨xs++[b_ "eof-in-script-in-script"],[.list ((bX C.c tu).map U.int)],(V.mono _).snoc (.err 1), ?_⟩
  rw[Cr]
  refine(DT.aC e1).trans ?_
  rw[q]
  have k:(aB (bB 39).St (dC fK) (zD C pl (mD m) xs (junk++[.list ((bX C.c tu).map U.int)]))).eval=_:=DT.aQ QH (by rw[bq (show xs.length<=1000000 by rw[V.len];lia)])
  exact k
 |false=>
  refine⟨xs,[.list ((bX C.c tu).map U.int)],by show RJ _ _ (row++[]);rw[List.append_nil];exact V.mono _, ?_⟩
  rw[Cr]
  refine(DT.aC e1).trans ?_
  rw[q]
  exact congrArg DT.eval QI
theorem QL{n:Nat}{row:List RI}(W:RJ junk xs row)(hb:Bd n row)(hT:C.T.length<=2000)(hn:n<=38000):
 ∃U more,RJ (junk++more) U (feed row (cps (aS C.T pl C.c)))/\((bB 40).St (aH dA 3) (zD C pl (mD m) xs junk)).eval=some (FL.next,zD C pl (mD m) U (junk++more)):=by
 have hl:(cps (aS C.T pl C.c)).length<=2000:=by rw[bw];exact Nat.le_trans mZ hT
 obtain⟨U,ps,qs,V,h2⟩:=zK W hb (l:=cps (aS C.T pl C.c)) (by lia) hl [.frame (fD C pl (mD m))] (.cell (some (.int C.c)))
 refine⟨U,[.list ps, .list qs],V.mono _, ?_⟩
 rw[QA,bq (show C.T.length<=1000000 by lia),gu]
 refine wV (w:= .none) ?_
 rw[BA]
 exact h2
theorem J9{tu ta:List (Int×Int)}(Y:C.tu= .dat (.list (eC tu)))(ha:C.ta= .dat (.list (eC ta)))(hT:C.T.length<=2000)(hL:C.low.length<=2000)(hn:tu.length<3000)(hm:ta.length<3000)(hw:ta.length*(C.T.length+1)<=35000)(Z:bX C.c tu≠[])(J:wb C ta):
 ∃xs junk,RJ junk xs (pN C tu ta)/\(aL S1 fG 3000 40 813 [.str C.T, .str C.low,C.tu,C.ta, .int C.c] ⟨[],[]⟩).eval=some (.obj 1,⟨[], .cell (some (.int C.c)):: .list xs::junk⟩):=by
 obtain⟨fl,U,W,more,V,h2,h3,h4⟩:=Ml hT hL ta (pl:=0) (m:=none) (n:=0) (row:=[]) J RJ.nil ⟨Nat.zero_le _,λq K=>by cases K⟩ (by lia)
 have X:((bB 40).St j9 (zD C 0 (mD none) [] [])).eval=some (fl,zD C (cr C ta 0 []).2.1 (mD U) W ([]++more)):=by
  rw[OA ha]
  have e:(eC ta).map bZ=[]++ta.map fz:=by unfold eC;rw[List.map_map];rfl
  rw[e]
  have:=Ov (asg:=jI) (b:=ff) (rest:=ta.map fz) (pre:=[]) (n:=3000) (by rw[List.length_map];lia)
  rw[show cQ jI ff (.fixed ([]++ta.map fz)) 3000 0=lY jI ff (ta.map fz)from this]
  exact h3
 have pre:∀{l:List Stmt},(aB (bB 40).St ([aH dA 0,aH dA 1]++l) (xX C)).eval=(aB (bB 40).St l (zD C 0 (mD none) [] [])).eval:=by
  intro l;rw[tZ];exact DT.aC Oz
 rw[OB,Mo,show[aH dA 0,aH dA 1,j9,aH dA 3,fK,aH dA 5]=[aH dA 0,aH dA 1]++[j9,aH dA 3,fK,aH dA 5]from rfl]
 unfold pN
 cases q:(cr C ta 0 []).1 with
 |true=>
  rw[q]at h4
  cases h4
  exact⟨W,[]++more,V,jQ (pre.trans (mY X)) (.inl rfl)⟩
 |false=>
  rw[q]at h4
  cases h4
  obtain⟨Ut,N,g1,g2⟩:=QL (C:=C) (pl:=(cr C ta 0 []).2.1) (m:=U) V h2 hT (by lia)
  have hf:=(h2.feed (cps (aS C.T (cr C ta 0 []).2.1 C.c))).len
  have hl:(cps (aS C.T (cr C ta 0 []).2.1 C.c)).length<=2000:=by rw[bw];exact Nat.le_trans mZ hT
  obtain⟨L,G,k1,k2⟩:=SU (C:=C) (pl:=(cr C ta 0 []).2.1) (m:=U) Y hn Z g1 (by lia)
  exact⟨L,_,k1,jQ (pre.trans ((bF X).trans ((bF g2).trans ((bF k2).trans (mY (congrArg DT.eval QB)))))) (.inl rfl)⟩
end
noncomputable def aG(z:Nat)(w:List Nat):Nat:=if bG w=true then(if z<2 then 1 else 2)else if ci w=true/\z=1 then 3 else if z≠0/\w.take 3=[45,45,62]then 4 else if z=0/\w.take 4=[60,33,45,45]then 5 else 0
noncomputable def ln:Nat->Nat
 |1=>9
 |2=>9
 |3=>8
 |4=>3
 |5=>4
 |_=>0
noncomputable def zn(z:Nat):Nat->Nat
 |1=>0
 |2=>1
 |3=>2
 |4=>0
 |5=>1
 |_=>z
noncomputable def mz:Nat->Option Bool
 |1=>some false
 |2=>some true
 |_=>none
theorem Ax{c:RD}{w:List Nat}:cq c w=bG w:=by
 have h:lw c=some fw:=by kernel_rfl
 unfold cq
 rw[h];rfl
section
variable{c:RD}{w u:List Nat}{ch n z j:Nat}
theorem uJ{h0:Nat}{h:List Nat}(U:aI h0=h0)(V:∀x,aI x=h0->x=h0)(q:cP (h0::h) w=true):∃w',w=h0::w'/\cP h w'=true:=by
 cases w with
 |nil=>rw[ou]at q;cases q
 |cons a w=>
  by_cases e:aI a=h0
  ·rw[jc e]at q
   exact⟨w,by rw[V a e],q⟩
  ·rw[jb e]at q;cases q
theorem Em:∀x,aI x=60->x=60:=λx h=>Classical.byContradiction λq=>vz q h
theorem Ux:∀x,aI x=47->x=47:=λx h=>Classical.byContradiction λq=>Bw q h
theorem oS(h:bG w=true):∃w',w=60::47::w'/\cP fw w'=true:=by
 obtain⟨w1,e1,V⟩:=uJ (by decide) Em h
 obtain⟨w2,e2,h2⟩:=uJ (by decide) Ux V
 exact⟨w2,by rw[e1,e2],h2⟩
theorem vD(h:ci w=true):∃w',w=60::w'/\cP fw w'=true:=uJ (by decide) Em h
theorem rK(h:cP fw w=true):∃ls ch w',w=ls++ch::w'/\ls.length=6/\(∀x∈ls,isLet x=true)/\ls.map aI=fw/\cU ch=true:=by
 obtain⟨ls,w',e,s1,s2⟩:=mJ w
 rw[e]at h
 obtain⟨V,ch,U,h2,h3⟩:=(qK (by decide) s1 s2).mp h
 exact⟨ls,ch,U,by rw[e,h2],by rw[<-List.length_map (f:=aI),V];rfl,s1,V,h3⟩
theorem nN(h:bG w=true):aG z w=if z<2 then 1 else 2:=by unfold aG;rw[if_pos h]
theorem rj(Y:z<=2):sc c (mz z) (ch::w) n=if aG z (ch::w)=1 then(n,false)else sc c (mz (zn z (aG z (ch::w)))) w (n+1):=by
 have W:(ch::w).take 3=[45,45,62]->bG (ch::w)=false/\ci (ch::w)=false:=λq=>by
  rw[List.take_succ_cons]at q
  injection q with q
  subst q
  exact⟨rG (by decide),rF (by decide)⟩
 have X:(ch::w).take 3=[45,45,62]->sc c none (w.drop 2) (n+3)=sc c none w (n+1):=λq=>by
  match w,q with
  |a::b::w2,q=>
   injection q with _ q
   injection q with V q
   injection q with q2 q
   subst V;subst q2
   rw[lM,oG (by decide) (.inr trivial),if_neg (by decide),if_neg (λq=>by injection q with q;cases q),lM,oG (by decide) (.inr trivial),if_neg (by decide),if_neg (λq=>by injection q with q;cases q)];rfl
 match z,Y with
 |0,_=>
  show sc c none (ch::w) n=_
  rw[lM,Ax]
  cases q:bG (ch::w)with
  |true=>rw[nN q];rfl
  |false=>
   by_cases U:(ch::w).take 4=[60,33,45,45]
   ·have e:aG 0 (ch::w)=5:=by unfold aG;rw[q];simp[U]
    rw[e,if_neg (by decide),if_pos U]
    match w,U with
    |a::w2,U=>
     injection U with _ U
     injection U with V U
     subst V
     show sc c (some false) w2 (n+2)=sc c (some false) (33::w2) (n+1)
     rw[jd (by decide) (by decide)]
   ·have e:aG 0 (ch::w)=0:=by unfold aG;rw[q];simpa using U
    rw[e,if_neg (by decide),if_neg U];rfl
 |1,_=>
  show sc c (some false) (ch::w) n=_
  rw[kH,Ax,if_neg (by decide:¬false=true)]
  by_cases q3:(ch::w).take 3=[45,45,62]
  ·obtain⟨d1,d2⟩:=W q3
   have e:aG 1 (ch::w)=4:=by unfold aG;rw[d1,d2];simp[q3]
   rw[e,if_pos q3]
   exact X q3
  ·rw[if_neg q3]
   cases q:bG (ch::w)with
   |true=>rw[nN q];rfl
   |false=>
    rw[if_neg (by decide)]
    cases q2:ci (ch::w)with
    |true=>
     have e:aG 1 (ch::w)=3:=by unfold aG;rw[q,q2];rfl
     rw[e];rfl
    |false=>
     have e:aG 1 (ch::w)=0:=by unfold aG;rw[q,q2];simpa using q3
     rw[e];rfl
 |2,_=>
  show sc c (some true) (ch::w) n=_
  rw[kH,if_pos rfl]
  by_cases q3:(ch::w).take 3=[45,45,62]
  ·obtain⟨d1,d2⟩:=W q3
   have e:aG 2 (ch::w)=4:=by unfold aG;rw[d1,d2];simp[q3]
   rw[e,if_pos q3]
   exact X q3
  ·rw[if_neg q3]
   cases q:bG (ch::w)with
   |true=>rw[nN q];rfl
   |false=>
    have e:aG 2 (ch::w)=0:=by unfold aG;rw[q];simpa using q3
    rw[e];rfl
theorem zb{h:List Nat}:cP h (w.take j)=(cP h w&&decide (h.length+1<=j)):=by
 unfold cP
 by_cases q:h.length+1<=j
 ·rw[decide_eq_true q,Bool.and_true,List.take_take,Nat.min_eq_left (by lia),List.getElem?_take_of_lt (by lia)]
 ·rw[decide_eq_false q,Bool.and_false,List.getElem?_eq_none (by rw[List.length_take];lia),Bool.and_false]
theorem Ay{p:List Nat}{k:Nat}(hp:p.length=k):(w.take j).take k=p<->w.take k=p/\k<=j:=by
 constructor
 ·intro h
  have:=congrArg List.length h
  rw[List.length_take,List.length_take,hp]at this
  rw[List.take_take,Nat.min_eq_left (by lia)]at h
  exact⟨h,by lia⟩
 ·rintro⟨V,h2⟩
  rw[List.take_take,Nat.min_eq_left h2];exact V
theorem Mp:aG z (w.take j)=if ln (aG z w)<=j then aG z w else 0:=by
 have ds:bG (w.take j)=(bG w&&decide (9<=j)):=zb
 have Y:ci (w.take j)=(ci w&&decide (8<=j)):=zb
 have p3:(w.take j).take 3=[45,45,62]<->_:=Ay (k:=3) rfl
 have p4:(w.take j).take 4=[60,33,45,45]<->_:=Ay (k:=4) rfl
 cases qs:bG w with
 |true=>
  obtain⟨w',e,_⟩:=oS qs
  have X:w.take 3≠[45,45,62]:=λq=>by rw[e,List.take_succ_cons]at q;injection q with q;cases q
  have Z:w.take 4≠[60,33,45,45]:=λq=>by rw[e,List.take_succ_cons,List.take_succ_cons]at q;injection q with _ q;injection q with q;cases q
  have no:ci w=false:=by
   cases q:ci w with
   |false=>rfl
   |true=>
    obtain⟨w2,e2,h2⟩:=vD q
    rw[e]at e2
    injection e2 with _ e2
    rw[<-e2,show fw=115::[99,114,105,112,116]from rfl,jb (by decide)]at h2;cases h2
  rw[nN qs,show ln (if z<2 then 1 else 2)=9 by split<;>rfl]
  by_cases q:9<=j
  ·rw[if_pos q,nN (by rw[ds,qs,decide_eq_true q];rfl)]
  ·rw[if_neg q]
   unfold aG
   rw[ds,Y,qs,no,decide_eq_false q,if_neg (by decide),if_neg (λh=>by cases h.1),if_neg (λh=>X (p3.mp h.2).1),if_neg (λh=>Z (p4.mp h.2).1)]
 |false=>
  have e1:aG z w=if ci w=true/\z=1 then 3 else if z≠0/\w.take 3=[45,45,62]then 4 else if z=0/\w.take 4=[60,33,45,45]then 5 else 0:=by unfold aG;rw[qs];rfl
  have e2:aG z (w.take j)=if(ci w&&decide (8<=j))=true/\z=1 then 3 else if z≠0/\(w.take j).take 3=[45,45,62]then 4 else if z=0/\(w.take j).take 4=[60,33,45,45]then 5 else 0:=by
   unfold aG
   rw[ds,Y,qs];rfl
  rw[e1,e2]
  by_cases U:ci w=true/\z=1
  ·obtain⟨w2,e2,h2⟩:=vD U.1
   have X:w.take 3≠[45,45,62]:=λq=>by rw[e2,List.take_succ_cons]at q;injection q with q;cases q
   rw[if_pos U,show ln 3=8 from rfl]
   by_cases q:8<=j
   ·rw[if_pos q,if_pos ⟨by rw[U.1,decide_eq_true q];rfl,U.2⟩]
   ·rw[if_neg q,if_neg (λh=>by rw[decide_eq_false q,Bool.and_false]at h;cases h.1),if_neg (λh=>X (p3.mp h.2).1),if_neg (λh=>by rw[U.2]at h;cases h.1)]
  ·rw[if_neg U,if_neg (λh=>U ⟨(Bool.and_eq_true_iff.mp h.1).1,h.2⟩)]
   by_cases V:z≠0/\w.take 3=[45,45,62]
   ·rw[if_pos V,show ln 4=3 from rfl]
    by_cases q:3<=j
    ·rw[if_pos q,if_pos ⟨V.1,p3.mpr ⟨V.2,q⟩⟩]
    ·rw[if_neg q,if_neg (λh=>q (p3.mp h.2).2),if_neg (λh=>V.1 h.1)]
   ·rw[if_neg V,if_neg (λh=>V ⟨h.1,(p3.mp h.2).1⟩)]
    by_cases W:z=0/\w.take 4=[60,33,45,45]
    ·rw[if_pos W,show ln 5=4 from rfl]
     by_cases q:4<=j
     ·rw[if_pos q,if_pos ⟨W.1,p4.mpr ⟨W.2,q⟩⟩]
     ·rw[if_neg q,if_neg (λh=>q (p4.mp h.2).2)]
    ·rw[if_neg W,if_neg (λh=>W ⟨h.1,(p4.mp h.2).1⟩)]
     split<;>rfl
noncomputable def Quiet(w:List Nat):Prop:=∀x∈w,x≠60/\x≠62
theorem Az(V:ch≠60)(h2:w[1]?≠some 62):aG z (ch::w)=0:=by
 unfold aG
 rw[rG V,rF V,if_neg (by decide),if_neg (λq=>by cases q.1),if_neg (λq=> ?_),if_neg (λq=> ?_)]
 ·have q:=q.2
  rw[List.take_succ_cons]at q
  injection q with q;exact V q
 ·have q:=q.2
  match w,q with
  |a::b::w2,q=>
   injection q with _ q
   injection q with _ q
   injection q with q
   exact h2 (by rw[q];rfl)
theorem AA(U:z<=2):∀{u:List Nat} {n:Nat},Quiet u->sc c (mz z) u n=(n+u.length,mz z==some true)
 |[],n,_=>rfl
 |x::u,n,h=>by
  have e:aG z (x::u)=0:=Az (h x (.head _)).1 λq=>(h 62 (.tail _ (List.mem_of_getElem? q))).2 rfl
  rw[rj U,e,if_neg (by decide)]
  show sc c (mz z) u (n+1)=_
  rw[AA U λy hy=>h y (.tail _ hy),List.length_cons,Nat.add_assoc,Nat.add_comm 1]
theorem r5{x:Nat}(h:isLet x=true):x≠60/\x≠62:=by
 constructor<;>(rintro rfl;revert h;decide)
theorem Mq(h:aG z (ch::w)≠0):Quiet (w.take (ln (aG z (ch::w))-2)):=by
 have two:∀{ls w':List Nat} {c:Nat},ls.length=6->(∀x∈ls,isLet x=true)->Quiet ((ls++c::w').take 6):=λhl hx=>by
  rw[List.take_left' hl]
  exactλx q=>r5 (hx x q)
 revert h
 unfold aG
 by_cases U:bG (ch::w)=true
 ·intro _
  obtain⟨w',e,h2⟩:=oS U
  obtain⟨ls,c,w2,e2,V,hx,_⟩:=rK h2
  injection e with _ e
  rw[if_pos U,show ln (if z<2 then 1 else 2)=9 by split<;>rfl,e,e2]
  intro x W
  rcases List.mem_cons.mp W with rfl|W
  ·decide
  ·exact two V hx x W
 ·rw[if_neg U]
  by_cases q2:ci (ch::w)=true/\z=1
  ·intro _
   obtain⟨w',e,h2⟩:=vD q2.1
   obtain⟨ls,c,w2,e2,V,hx,_⟩:=rK h2
   injection e with _ e
   rw[if_pos q2,e,e2]
   exact two V hx
  ·rw[if_neg q2]
   by_cases q3:z≠0/\(ch::w).take 3=[45,45,62]
   ·intro _
    rw[if_pos q3]
    have q:=q3.2
    rw[List.take_succ_cons]at q
    injection q with _ q
    have:w.take 1=[45]:=by
     match w,q with
     |a::w2,q=>injection q with q _;rw[q];rfl
    show Quiet (w.take 1)
    rw[this]
    intro x hx;rcases List.mem_singleton.mp hx with rfl;decide
   ·rw[if_neg q3]
    by_cases X:z=0/\(ch::w).take 4=[60,33,45,45]
    ·intro _
     rw[if_pos X]
     have q:=X.2
     rw[List.take_succ_cons]at q
     injection q with _ q
     have:w.take 2=[33,45]:=by
      match w,q with
      |a::b::w2,q=>injection q with U q;injection q with q2 q;rw[U,q2];rfl
     show Quiet (w.take 2)
     rw[this]
     intro x hx
     rcases List.mem_cons.mp hx with rfl|hx
     ·decide
     ·rcases List.mem_singleton.mp hx with rfl;decide
    ·rw[if_neg X]
     exactλh=>absurd rfl h
end
noncomputable def bV:List Nat->Nat
 |[]=>0
 |c::w=>if c=62 then 1 else bV w+1
noncomputable def a9:List Nat->Nat->Nat->Nat->List (Int×Int)×List (Int×Int)
 |[],_,_,_=>([],[])
 |ch::w,z,fr,k=>if k<fr then a9 w z fr (k+1)else if aG z (ch::w)=0 then a9 w z fr (k+1)else if aG z (ch::w)=1 then((((k+bV (ch::w):Nat):Int),0)::(a9 w 0 (k+bV (ch::w)) (k+1)).1,((k:Int),((k+bV (ch::w):Nat):Int))::(a9 w 0 (k+bV (ch::w)) (k+1)).2)
  else((((k+ln (aG z (ch::w)):Nat):Int),((zn z (aG z (ch::w)):Nat):Int))::(a9 w (zn z (aG z (ch::w))) fr (k+1)).1,(a9 w (zn z (aG z (ch::w))) fr (k+1)).2)
section
variable{w u:List Nat}{ch z k fr q:Nat}
theorem QM:aG z w<=5:=by
 unfold aG
 repeat' split
 all_goals decide
theorem wc(h:aG z w≠0):3<=ln (aG z w)/\(aG z w≠1->zn z (aG z w)<=2):=by
 have:=QM (z:=z) (w:=w)
 generalize aG z w=e at h this
 match e,h,this with
 |1,_,_=>exact⟨by decide,λq=>absurd rfl q⟩
 |2,_,_=>exact⟨by decide,λ_=>Nat.le_of_ble_eq_true rfl⟩
 |3,_,_=>exact⟨by decide,λ_=>Nat.le_of_ble_eq_true rfl⟩
 |4,_,_=>exact⟨by decide,λ_=>Nat.le_of_ble_eq_true rfl⟩
 |5,_,_=>exact⟨by decide,λ_=>Nat.le_of_ble_eq_true rfl⟩
theorem pO(h:aG z w=1):bG w=true:=by
 cases q:bG w with
 |true=>rfl
 |false=>
  revert h
  unfold aG
  rw[q,if_neg (by decide)]
  repeat' split
  all_goals (intro h;cases h)
theorem SV(h:aG z (ch::w)≠0)(W:Quiet ((ch::w).take q)):q<=2/\(aG z (ch::w)=1->q=0):=by
 cases q with
 |zero=>exact⟨Nat.zero_le _,λ_=>rfl⟩
 |succ q=>
  have V:ch≠60:=(W ch (by rw[List.take_succ_cons];exact .head _)).1
  refine⟨?_,λe=> ?_⟩
  ·refine Classical.byContradiction λg=>h (Az V λe=> ?_)
   refine(W 62 ?_).2 rfl
   rw[List.take_succ_cons]
   refine .tail _ (List.mem_of_getElem? (i:=1) ?_)
   rw[List.getElem?_take_of_lt (by lia)];exact e
  ·obtain⟨w',U,_⟩:=oS (pO e)
   injection U with U _
   exact absurd U V
theorem BC:1<=bV (ch::w):=by
 unfold bV
 split<;>lia
theorem vE:∀{u w:List Nat},(∀x∈u,x≠62)->bV (u++w)=u.length+bV w
 |[],w,_=>(Nat.zero_add _).symm
 |x::u,w,h=>by
  show(if x=62 then 1 else bV (u++w)+1)=_
  rw[if_neg (h x (.head _)),vE λy hy=>h y (.tail _ hy),List.length_cons];lia
theorem OD(h:bG w=true):9<=bV w:=by
 obtain⟨w',e,h2⟩:=oS h
 obtain⟨ls,c,w2,e2,V,hx,_,_⟩:=rK h2
 rw[e,e2,show 60::47::(ls++c::w2)=(60::47::ls)++c::w2 from rfl,vE (λx U=> ?_)]
 ·have:=BC (ch:=c) (w:=w2)
  rw[List.length_cons,List.length_cons,V];lia
 ·rcases List.mem_cons.mp U with rfl|U
  ·decide
  ·rcases List.mem_cons.mp U with rfl|U
   ·decide
   ·exact(r5 (hx x U)).2
theorem F9(h:Quiet ((ch::w).take q)):Quiet (w.take (q-1)):=by
 cases q with
 |zero=>intro x hx;cases hx
 |succ q=>rw[List.take_succ_cons]at h;exactλx hx=>h x (.tail _ hx)
theorem uK:∀{w:List Nat} {z fr k q:Nat},Quiet (w.take q)->(∀t∈(a9 w z fr k).1,((k+q:Nat):Int)<t.1)/\(∀t∈(a9 w z fr k).2,((k+q:Nat):Int)<=t.1):=by
 intro w
 induction w with
 |nil=>exactλ{z fr k q} _=>⟨λt h=>(List.not_mem_nil h).elim,λt h=>(List.not_mem_nil h).elim⟩
 |cons ch w ih=>
  intro z fr k q U
  have more:∀z fr,(∀t∈(a9 w z fr (k+1)).1,((k+q:Nat):Int)<t.1)/\(∀t∈(a9 w z fr (k+1)).2,((k+q:Nat):Int)<=t.1):=λz fr=>by
   obtain⟨V,h2⟩:=ih (z:=z) (fr:=fr) (k:=k+1) (F9 U)
   exact⟨λt h=>by have:=V t h;lia,λt h=>by have:=h2 t h;lia⟩
  unfold a9
  by_cases hf:k<fr
  ·rw[if_pos hf];exact more _ _
  ·rw[if_neg hf]
   by_cases e0:aG z (ch::w)=0
   ·rw[if_pos e0];exact more _ _
   ·rw[if_neg e0]
    obtain⟨g1,g2⟩:=SV e0 U
    by_cases e1:aG z (ch::w)=1
    ·rw[if_pos e1]
     have W:=g2 e1
     obtain⟨m1,m2⟩:=more 0 (k+bV (ch::w))
     have X:=BC (ch:=ch) (w:=w)
     refine⟨λt h=> ?_,λt h=> ?_⟩
     ·rcases List.mem_cons.mp h with rfl|h
      ·dsimp only;lia
      ·exact m1 t h
     ·rcases List.mem_cons.mp h with rfl|h
      ·dsimp only;lia
      ·exact m2 t h
    ·rw[if_neg e1]
     obtain⟨m1,m2⟩:=more (zn z (aG z (ch::w))) fr
     have:=(wc e0).1
     refine⟨λt h=> ?_,m2⟩
     rcases List.mem_cons.mp h with rfl|h
     ·dsimp only;lia
     ·exact m1 t h
noncomputable def eW(c z:Int)(tu:List (Int×Int)):Int:=((bX c tu).getLast?).getD z
theorem A4{c z d z':Int}{tu:List (Int×Int)}(h:d<=c):eW c z ((d,z')::tu)=eW c z' tu:=by
 unfold eW bX
 rw[List.filter_cons,if_pos (decide_eq_true h),List.map_cons,List.getLast?_cons];rfl
theorem zM{c z:Int}{tu:List (Int×Int)}(h:∀t∈tu,c<t.1):eW c z tu=z:=by
 unfold eW bX
 rw[List.filter_eq_nil_iff.mpr (λt ht=>by have:=h t ht;simp;lia)];rfl
theorem J_{c z d z':Int}{tA tu:List (Int×Int)}(h:d<=c):eW c z (tA++(d,z')::tu)=eW c z' tu:=by
 unfold eW bX
 rw[List.filter_append,List.filter_cons,if_pos (decide_eq_true h),List.map_append,List.map_cons,List.getLast?_append,List.getLast?_cons];rfl
theorem wW(U:z<=2):(mz z==some true)=decide ((z:Int)=2):=by
 match z,U with
 |0,_=>rfl
 |1,_=>rfl
 |2,_=>rfl
structure QN(w:List Nat)(z fr k c:Nat):Prop where
 run:∀(X:RD) n,sc X (mz z) (w.take (c-k)) n=(n+(w.take (c-k)).length,decide (eW c z (a9 w z fr k).1=2))
 ta:∀t∈(a9 w z fr k).2,(c:Int)<t.1+9
structure SX(w:List Nat)(z fr k c:Nat)(pre w':List Nat):Prop where
 eq:w=pre++w'
 xY:bG w'=true
 le:k+pre.length+9<=c
 run:∀(X:RD) n,sc X (mz z) (w.take (c-k)) n=(n+pre.length,false)
 tu:∃tA,(a9 w z fr k).1=tA++(((k+pre.length+bV w':Nat):Int),0)::(a9 w'.tail 0 (k+pre.length+bV w') (k+pre.length+1)).1
 ta:(a9 w z fr k).2=(((k+pre.length:Nat):Int),((k+pre.length+bV w':Nat):Int))::(a9 w'.tail 0 (k+pre.length+bV w') (k+pre.length+1)).2
theorem HB:∀{w:List Nat} {z fr k c:Nat},z<=2->fr<=k->k<=c->QN w z fr k c\/∃pre w',SX w z fr k c pre w':=by
 intro w
 induction w with
 |nil=>
  intro z fr k c Y hf hk
  refine .inl ⟨λX n=> ?_,λt h=>(List.not_mem_nil h).elim⟩
  rw[List.take_nil,vA,wW Y];rfl
 |cons ch w ih=>
  intro z fr k c Y hf hk
  have D:Quiet ((ch::w).take 0):=λx hx=>by cases hx
  by_cases E:c=k
  ·subst E
   obtain⟨V,h2⟩:=uK (z:=z) (fr:=fr) (k:=c) D
   refine .inl ⟨λX n=> ?_,λt h=>by have:=h2 t h;lia⟩
   rw[Nat.sub_self,List.take_zero,vA,wW Y,zM (c:=(c:Int)) (λt ht=>by have:=V t ht;lia)];rfl
  ·obtain⟨j,F⟩:∃j,c-k=j+1:=⟨c-k-1,by lia⟩
   have J:c-(k+1)=j:=by lia
   have tk:(ch::w).take (c-k)=ch::w.take j:=by rw[F];rfl
   have W:=Mp (w:=ch::w) (z:=z) (j:=j+1)
   rw[List.take_succ_cons]at W
   have K:aG z (ch::w.take j)=0->∀(X:RD) n,sc X (mz z) ((ch::w).take (c-k)) n=sc X (mz z) (w.take j) (n+1):=λe X n=>by
    rw[tk,rj Y,e,if_neg (by decide)];rfl
   have U:a9 (ch::w) z fr k=if aG z (ch::w)=0 then a9 w z fr (k+1)else if aG z (ch::w)=1 then((((k+bV (ch::w):Nat):Int),0)::(a9 w 0 (k+bV (ch::w)) (k+1)).1,((k:Int),((k+bV (ch::w):Nat):Int))::(a9 w 0 (k+bV (ch::w)) (k+1)).2)
    else((((k+ln (aG z (ch::w)):Nat):Int),((zn z (aG z (ch::w)):Nat):Int))::(a9 w (zn z (aG z (ch::w))) fr (k+1)).1,(a9 w (zn z (aG z (ch::w))) fr (k+1)).2):=by
    show(if k<fr then _ else _)=_
    rw[if_neg (by lia)]
   by_cases e0:aG z (ch::w)=0
   ·rw[e0,show ln 0=0 from rfl,if_pos (Nat.zero_le _)]at W
    rw[if_pos e0]at U
    rcases ih (z:=z) (fr:=fr) (k:=k+1) (c:=c) Y (by lia) (by lia)with h|⟨pre,w',h⟩
    ·refine .inl ⟨λX n=> ?_,by rw[U];exact h.ta⟩
     have r:=h.run X (n+1)
     rw[J]at r
     rw[K W,r,tk,U,List.length_cons,Nat.add_assoc,Nat.add_comm 1]
    ·have Z:k+(ch::pre).length=k+1+pre.length:=by rw[List.length_cons];lia
     refine .inr ⟨ch::pre,w',by rw[h.eq];rfl,h.xY,by rw[Z];exact h.le,λX n=> ?_,by rw[U,Z];exact h.tu,by rw[U,Z];exact h.ta⟩
     have r:=h.run X (n+1)
     rw[J]at r
     rw[K W,r,List.length_cons,Nat.add_assoc,Nat.add_comm 1]
   ·rw[if_neg e0]at U
    have B:=(wc e0).1
    have aq:¬ln (aG z (ch::w))<=j+1->Quiet (w.take j):=λh x hx=>by
     have:=Mq e0
     exact this x (List.mem_of_getElem? (l:=w.take (ln (aG z (ch::w))-2)) (i:=(List.mem_iff_getElem?.mp hx).choose) (by
      have q:=(List.mem_iff_getElem?.mp hx).choose_spec
      have lt:=(List.getElem?_eq_some_iff.mp q).1
      rw[List.length_take]at lt
      rw[List.getElem?_take_of_lt (by lia)]at q
      rw[List.getElem?_take_of_lt (by lia)];exact q))
    have hide:¬ln (aG z (ch::w))<=j+1->(∀t∈(a9 (ch::w) z fr k).1,(c:Int)<t.1)->∀(X:RD) n,sc X (mz z) ((ch::w).take (c-k)) n=(n+((ch::w).take (c-k)).length,decide (eW c z (a9 (ch::w) z fr k).1=2)):=λh hl X n=>by
     rw[if_neg h]at W
     rw[K W,AA Y (aq h),tk,List.length_cons,zM hl,wW Y,Nat.add_assoc,Nat.add_comm 1]
    by_cases e1:aG z (ch::w)=1
    ·rw[if_pos e1]at U
     have C:=OD (pO e1)
     by_cases H:9<=j+1
     ·refine .inr ⟨[],ch::w,rfl,pO e1,by rw[List.length_nil];lia,λX n=> ?_,⟨[],by rw[U];rfl⟩,by rw[U];rfl⟩
      rw[e1,if_pos (show ln 1<=j+1 from H)]at W
      rw[tk,rj Y,W,if_pos rfl];rfl
     ·have I:¬ln (aG z (ch::w))<=j+1:=by rw[e1];exact H
      obtain⟨L,N⟩:=uK (z:=0) (fr:=k+bV (ch::w)) (k:=k+1) (aq I)
      have G:∀t∈(a9 (ch::w) z fr k).1,(c:Int)<t.1:=λt h=>by
       rw[U]at h
       rcases List.mem_cons.mp h with rfl|h
       ·dsimp only;lia
       ·have:=L t h;lia
      refine .inl ⟨hide I G,λt h=> ?_⟩
      rw[U]at h
      rcases List.mem_cons.mp h with rfl|h
      ·dsimp only;lia
      ·have:=N t h;lia
    ·rw[if_neg e1]at U
     have M:=(wc e0).2 e1
     by_cases hv:ln (aG z (ch::w))<=j+1
     ·rw[if_pos hv]at W
      have go:∀(X:RD) n,sc X (mz z) ((ch::w).take (c-k)) n=sc X (mz (zn z (aG z (ch::w)))) (w.take j) (n+1):=λX n=>by
       rw[tk,rj Y,W,if_neg e1]
      have O:(((k+ln (aG z (ch::w)):Nat):Int))<=(c:Int):=by lia
      rcases ih (z:=zn z (aG z (ch::w))) (fr:=fr) (k:=k+1) (c:=c) M (by lia) (by lia)with h|⟨pre,w',h⟩
      ·refine .inl ⟨λX n=> ?_,by rw[U];exact h.ta⟩
       have r:=h.run X (n+1)
       rw[J]at r
       rw[go,r,tk,U]
       dsimp only
       rw[A4 O,List.length_cons,Nat.add_assoc,Nat.add_comm 1]
      ·have Z:k+(ch::pre).length=k+1+pre.length:=by rw[List.length_cons];lia
       obtain⟨tA,ht⟩:=h.tu
       refine .inr ⟨ch::pre,w',by rw[h.eq];rfl,h.xY,by rw[Z];exact h.le,λX n=> ?_,⟨_::tA,by rw[U,Z,ht];rfl⟩,by rw[U,Z];exact h.ta⟩
       have r:=h.run X (n+1)
       rw[J]at r
       rw[go,r,List.length_cons,Nat.add_assoc,Nat.add_comm 1]
     ·obtain⟨L,N⟩:=uK (z:=zn z (aG z (ch::w))) (fr:=fr) (k:=k+1) (aq hv)
      have G:∀t∈(a9 (ch::w) z fr k).1,(c:Int)<t.1:=λt h=>by
       rw[U]at h
       rcases List.mem_cons.mp h with rfl|h
       ·dsimp only;lia
       ·have:=L t h;lia
      refine .inl ⟨hide hv G,λt h=> ?_⟩
      rw[U]at h
      have:=N t h;lia
end
section
variable{w u L:List Nat}{ch z k fr q:Nat}
theorem OF:∀{w:List Nat} {z fr k:Nat},fr<=k->a9 w z fr k=a9 w z 0 k:=by
 intro w
 induction w with
 |nil=>exactλ{z fr k} _=>rfl
 |cons ch w ih=>
  intro z fr k h
  unfold a9
  rw[if_neg (Nat.not_lt.mpr h),if_neg (Nat.not_lt_zero _),ih (z:=z) (Nat.le_succ_of_le h),ih (z:=zn z (aG z (ch::w))) (Nat.le_succ_of_le h)]
theorem J':∀{d:Nat} {w:List Nat} {k:Nat},d<=w.length->a9 w z (k+d) k=a9 (w.drop d) z 0 (k+d):=by
 intro d
 induction d with
 |zero=>exactλ{w k} _=>OF (Nat.le_refl _)
 |succ d ih=>
  intro w k h
  cases w with
  |nil=>exact absurd h (Nat.not_succ_le_zero _)
  |cons ch w=>
   have e:a9 (ch::w) z (k+(d+1)) k=a9 w z (k+(d+1)) (k+1):=by
    show(if k<k+(d+1)then _ else _)=_
    rw[if_pos (by lia)]
   rw[e,show k+(d+1)=(k+1)+d by lia,ih (Nat.le_of_succ_le_succ h)];rfl
noncomputable def k9(L:List Nat):Prop:=∀pre w',L=pre++w'->bG w'=true->∃ls tail its r,w'=bR ls tail/\ls.length=6/\(∀x∈ls,isLet x=true)/\Tail tail its r
structure Er(tail:List Nat)(its:List RI)(r mid:List Nat):Prop where
 eq:tail=mid++62::r
 no:∀x∈mid,x≠62
 tl:gz (ag (mid.map aI))=its
 cut:∀j,1<=j->j<=mid.length->∃e,Cut (tail.take j) e/\iM (ag ((tail.take j).map aI))=some e
 on:∀m,Tail (tail.take (mid.length+1+m)) its (r.take m)
theorem uL{tail r:List Nat}{its:List RI}(h:Tail tail its r):∃mid,Er tail its r mid:=by
 cases h with
 |gt=>exact⟨[],rfl,(λx h=>by cases h),by kernel_rfl,(λj V h2=>by rw[List.length_nil]at h2;lia),λm=>by rw[List.length_nil,show 0+1+m=m+1 by lia];exact .gt⟩
 |sp=>exact⟨[32],rfl,by decide,by kernel_rfl,(λj V h2=>by
   rw[show j=1 by simp at h2;lia]
   exact⟨4, .sp,by kernel_rfl⟩),λm=>by rw[show[32].length+1+m=m+1+1 by simp;lia];exact .sp⟩
 |sl=>exact⟨[47],rfl,by decide,by kernel_rfl,(λj V h2=>by
   rw[show j=1 by simp at h2;lia]
   exact⟨5, .sl,by kernel_rfl⟩),λm=>by rw[show[47].length+1+m=m+1+1 by simp;lia];exact .sl⟩
 |@nb b _ hb=>
  have e:aI b=98:=by rcases hb with rfl|rfl<;>rfl
  have U:b≠62:=by rcases hb with rfl|rfl<;>decide
  refine⟨[10,b],rfl,(λx h=>by
   rcases List.mem_cons.mp h with rfl|h
   ·decide
   ·rcases List.mem_singleton.mp h with rfl;exact U), ?_,(λj V h2=> ?_),λm=> ?_⟩
  ·rw[show[10,b].map aI=[10,aI b]from rfl,e];kernel_rfl
  ·have:j=1\/j=2:=by simp at h2;lia
   rcases this with rfl|rfl
   ·exact⟨4, .nl,by kernel_rfl⟩
   ·refine⟨6, .nb hb, ?_⟩
    rw[show((10::b::62::r).take 2).map aI=[10,aI b]from rfl,e];kernel_rfl
  ·rw[show[10,b].length+1+m=m+1+1+1 by simp;lia];exact .nb hb
theorem vF{ls tail r mid:List Nat}{its:List RI}(U:ls.length=6)(hl:∀x∈ls,isLet x=true)(h:Er tail its r mid):bV (bR ls tail)=9+mid.length:=by
 unfold bR
 rw[h.eq,show 60::47::(ls++(mid++62::r))=(60::47::(ls++mid))++62::r by simp,vE (λx hx=> ?_)]
 ·show _+(if 62=62 then 1 else _)=_
  rw[if_pos rfl,List.length_cons,List.length_cons,List.length_append,U];lia
 ·rcases List.mem_cons.mp hx with rfl|hx
  ·decide
  ·rcases List.mem_cons.mp hx with rfl|hx
   ·decide
   ·rcases List.mem_append.mp hx with hx|hx
    ·exact(r5 (hl x hx)).2
    ·exact h.no x hx
noncomputable def iP(C:DC)(ta:List (Int×Int))(p:Int)(R:List RI)(U:Int):List RI:=cond (cr C ta p R).1 (cr C ta p R).2.2 (feed (cr C ta p R).2.2 (cps (aS C.T (cr C ta p R).2.1 C.c))++cond (decide (U=2)) [.err 1] [])
structure sH(C:DC)(c:Nat):Prop where
 low:C.low=aX C.T
 cc:C.c=(c:Int)
 le:c<=(cps C.T).length
variable{C:DC}{c:Nat}
theorem vc{x:Str}{a b:Nat}(ha:a<=x.length)(hb:b<=x.length):cps (aS x (a:Int) (b:Int))=((cps x).take b).drop a:=by
 rw[qY,Nat.min_eq_left ha,Nat.min_eq_left hb];rfl
theorem uM{x:Str}{a b:Nat}(ha:a<=x.length)(hb:b<=x.length):aS (aX x) (a:Int) (b:Int)=ag ((((cps x).take b).drop a).map aI):=by
 have e:(aX x).length=x.length:=by rw[<-bw (x:=aX x),<-bw (x:=x)];exact List.length_map ..
 rw[qY,e,Nat.min_eq_left ha,Nat.min_eq_left hb,List.map_drop,List.map_take];rfl
theorem Ka{b f:Nat}{ta:List (Int×Int)}{p:Int}{R:List RI}{U:Int}(V:b+9<=c)(hf:f<=c)(hC:sH C c):iP C (((b:Int),(f:Int))::ta) p R U=iP C ta (f:Int) (feed R (cps (aS C.T p (b:Int)))++gz (aS C.low ((b:Int)+8) ((f:Int)-1))) U:=by
 have e:cr C (((b:Int),(f:Int))::ta) p R=cr C ta (f:Int) (feed R (cps (aS C.T p (b:Int)))++gz (aS C.low ((b:Int)+8) ((f:Int)-1))):=by
  show(if C.c<(b:Int)+9 then _ else if C.c<(f:Int)then _ else _)=_
  rw[if_neg (by rw[hC.cc];lia),if_neg (by rw[hC.cc];lia)]
 unfold iP
 rw[e]
theorem Mr{b f:Nat}{ta:List (Int×Int)}{p:Int}{R:List RI}{U:Int}(V:b+9<=c)(hf:c<f)(hC:sH C c):iP C (((b:Int),(f:Int))::ta) p R U=feed R (cps (aS C.T p (b:Int)))++[.err ((iM (aS C.low ((b:Int)+8) C.c)).getD 0)]:=by
 have e:cr C (((b:Int),(f:Int))::ta) p R=(true,p,feed R (cps (aS C.T p (b:Int)))++[.err ((iM (aS C.low ((b:Int)+8) C.c)).getD 0)]):=by
  show(if C.c<(b:Int)+9 then _ else if C.c<(f:Int)then _ else _)=_
  rw[if_neg (by rw[hC.cc];lia),if_pos (by rw[hC.cc];lia)]
 unfold iP
 rw[e];rfl
theorem A5{ta:List (Int×Int)}{p:Int}{R:List RI}{U:Int}(h:∀t∈ta,(c:Int)<t.1+9)(hC:sH C c):iP C ta p R U=feed R (cps (aS C.T p C.c))++cond (decide (U=2)) [.err 1] []:=by
 have e:cr C ta p R=(false,p,R):=by
  cases ta with
  |nil=>rfl
  |cons t ta=>
   show(if C.c<t.1+9 then _ else _)=_
   rw[if_pos (by rw[hC.cc];exact h t (.head _))]
 unfold iP
 rw[e];rfl
theorem Kb(hC:sH C c)(hS:k9 (cps C.T)):∀(N p:Nat) (R:List RI),(cps C.T).length-p<=N->p<=c->gy (((cps C.T).take c).drop p) R (iP C (a9 ((cps C.T).drop p) 0 0 p).2 (p:Int) R (eW (c:Int) 0 (a9 ((cps C.T).drop p) 0 0 p).1)):=by
 have hle:=hC.le
 have hlen:C.T.length=(cps C.T).length:=bw.symm
 intro N
 induction N with
 |zero=>
  intro p R hN hp
  have F:p=(cps C.T).length:=by lia
  have hd:(cps C.T).drop p=[]:=List.drop_eq_nil_of_le (by lia)
  rw[hd]
  show gy _ R (iP C [] (p:Int) R (eW (c:Int) 0 []))
  rw[A5 (λt h=>(List.not_mem_nil h).elim) hC,hC.cc,vc (by lia) (by lia)]
  refine gy.fin (i:=decide (eW (c:Int) 0 []=2)) λX=> ?_
  rw[List.drop_eq_nil_of_le (by rw[List.length_take];lia)];rfl
 |succ N ih=>
  intro p R hN hp
  have em:((cps C.T).take c).drop p=((cps C.T).drop p).take (c-p):=List.drop_take ..
  rcases HB (w:=(cps C.T).drop p) (z:=0) (fr:=0) (k:=p) (c:=c) (by decide) (Nat.zero_le _) hp with h|⟨pre,w',h⟩
  ·rw[A5 h.ta hC,hC.cc,vc (by lia) (by lia)]
   refine gy.fin (i:=decide (eW (c:Int) 0 _=2)) λX=> ?_
   have:=h.run X 0
   rw[Nat.zero_add]at this
   rw[em];exact this
  ·have hL:cps C.T=((cps C.T).take p++pre)++w':=by
    rw[List.append_assoc,<-h.eq,List.take_append_drop]
   obtain⟨ls,tail,its,r,U,W,hl,H⟩:=hS _ _ hL h.xY
   obtain⟨mid,hm⟩:=uL H
   have Y:bV w'=9+mid.length:=by rw[U,vF W hl hm]
   have hb:((cps C.T).take p++pre).length=p+pre.length:=by rw[List.length_append,List.length_take];lia
   have M:w'.length=8+tail.length:=by rw[U];unfold bR;rw[List.length_cons,List.length_cons,List.length_append,W];lia
   have O:tail.length=mid.length+1+r.length:=by rw[hm.eq,List.length_append,List.length_cons];lia
   have B:(cps C.T).length=p+pre.length+w'.length:=by rw[<-hb,<-List.length_append,<-hL]
   have Z:=h.le
   have J:(((cps C.T).drop p).take (c-p))=pre++bR ls (tail.take (c-(p+pre.length+8))):=by
    rw[h.eq,show c-p=pre.length+(c-(p+pre.length)) by lia,List.take_length_add_append,U]
    unfold bR
    rw[show c-(p+pre.length)=(c-(p+pre.length+8))+6+1+1 by lia,List.take_succ_cons,List.take_succ_cons,show c-(p+pre.length+8)+6=ls.length+(c-(p+pre.length+8)) by lia,List.take_length_add_append]
   have run:∀X:RD,sc X none (pre++bR ls (tail.take (c-(p+pre.length+8)))) 0=(pre.length,false):=λX=>by
    have:=h.run X 0
    rw[J,Nat.zero_add]at this
    exact this
   have e1:cps (aS C.T (p:Int) ((p+pre.length:Nat):Int))=pre:=by
    rw[vc (by lia) (by lia)]
    have:(cps C.T).take (p+pre.length)=(cps C.T).take p++pre:=by
     have q:=List.take_left' (l₁:=(cps C.T).take p++pre) (l₂:=w') hb
     rw[<-hL]at q;exact q
    rw[this,List.drop_left' (by rw[List.length_take];lia)]
   have V:∀n,((cps C.T).drop (p+pre.length+8+n))=tail.drop n:=λn=>by
    rw[hL,U,show p+pre.length+8+n=((cps C.T).take p++pre).length+(8+n) by lia,List.drop_length_add_append]
    unfold bR
    rw[show 8+n=(ls.length+n)+1+1 by lia,List.drop_succ_cons,List.drop_succ_cons,List.drop_length_add_append]
   have K:((p+pre.length:Nat):Int)+8=((p+pre.length+8:Nat):Int):=by lia
   rw[em,J,h.ta,Y]
   by_cases hf:p+pre.length+(9+mid.length)<=c
   ·obtain⟨tA,L⟩:=h.tu
    rw[Y]at L
    rw[Ka Z hf hC,e1,hC.low,K,show(((p+pre.length+(9+mid.length):Nat):Int)-1)=((p+pre.length+8+mid.length:Nat):Int) by lia,uM (by lia) (by lia),L,J_ (by lia)]
    have I:((cps C.T).take (p+pre.length+8+mid.length)).drop (p+pre.length+8)=mid:=by
     have:=V 0
     rw[List.drop_zero,Nat.add_zero]at this
     rw[List.drop_take,this,hm.eq,show p+pre.length+8+mid.length-(p+pre.length+8)=mid.length by lia,List.take_left]
    have D:a9 w'.tail 0 (p+pre.length+(9+mid.length)) (p+pre.length+1)=a9 ((cps C.T).drop (p+pre.length+(9+mid.length))) 0 0 (p+pre.length+(9+mid.length)):=by
     have:=J' (z:=0) (d:=8+mid.length) (w:=w'.tail) (k:=p+pre.length+1) (by rw[List.length_tail];lia)
     rw[show p+pre.length+1+(8+mid.length)=p+pre.length+(9+mid.length) by lia]at this
     rw[this]
     congr 1
     have d2:=V (1+mid.length)
     rw[show p+pre.length+8+(1+mid.length)=p+pre.length+(9+mid.length) by lia]at d2
     rw[d2,U]
     unfold bR
     rw[List.tail_cons,show 8+mid.length=(ls.length+(1+mid.length))+1 by lia,List.drop_succ_cons,List.drop_length_add_append]
    rw[I,hm.tl,D]
    refine gy.tag (its:=its) (r:=r.take (c-(p+pre.length+(9+mid.length)))) run hl ?_ ?_
    ·have:=hm.on (c-(p+pre.length+(9+mid.length)))
     rw[show mid.length+1+(c-(p+pre.length+(9+mid.length)))=c-(p+pre.length+8) by lia]at this
     exact this
    ·have:=ih (p+pre.length+(9+mid.length)) (feed R pre++its) (by lia) hf
     have d2:=V (1+mid.length)
     rw[show p+pre.length+8+(1+mid.length)=p+pre.length+(9+mid.length) by lia]at d2
     have d3:tail.drop (1+mid.length)=r:=by rw[hm.eq,Nat.add_comm 1,List.drop_length_add_append];rfl
     rw[List.drop_take,d2,d3]at this
     rw[d2,d3]
     exact this
   ·rw[Mr Z (by lia) hC,e1,hC.low,K,hC.cc,uM (by lia) (by lia)]
    have G:=V 0
    rw[List.drop_zero,Nat.add_zero]at G
    have E:((cps C.T).take c).drop (p+pre.length+8)=tail.take (c-(p+pre.length+8)):=by rw[List.drop_take,G]
    obtain⟨e,k1,k2⟩:=hm.cut (c-(p+pre.length+8)) (by lia) (by lia)
    rw[E,k2]
    exact gy.cut run hl k1
end
noncomputable def wZ(v:Nat):Bool:= !isLet v
theorem lK{a v:Nat}(h:wZ v=true):aI a=v<->a=v:=by
 have hv:isLet v=false:=by unfold wZ at h;cases q:isLet v with|false=>rfl|true=>rw[q]at h;cases h
 constructor
 ·intro e
  unfold aI at e
  cases q:(Nat.ble 65 a&&Nat.ble a 90)with
  |false=>rw[q]at e;exact e
  |true=>
   rw[q]at e
   have e:a+32=v:=e
   rw[Bool.and_eq_true]at q
   have V:=Nat.le_of_ble_eq_true q.1
   have h2:=Nat.le_of_ble_eq_true q.2
   have:isLet v=true:=by
    unfold isLet
    rw[Bool.or_eq_true,Bool.and_eq_true,Bool.and_eq_true]
    right
    exact⟨Nat.ble_eq_true_of_le (by lia),Nat.ble_eq_true_of_le (by lia)⟩
   rw[this]at hv;cases hv
 ·rintro rfl
  unfold aI
  cases q:(Nat.ble 65 a&&Nat.ble a 90)with
  |false=>rfl
  |true=>
   have:isLet a=true:=by unfold isLet;rw[q];rfl
   rw[this]at hv;cases hv
theorem um:∀{p w:List Nat},(∀v∈p,wZ v=true)->((w.map aI).take p.length=p<->w.take p.length=p)
 |[],w,h=>by simp
 |v::p,[],h=>by simp
 |v::p,a::w,h=>by
  simp only[List.map_cons,List.length_cons,List.take_succ_cons,List.cons.injEq]
  rw[lK (h v (.head _)),um λu U=>h u (.tail _ U)]
theorem Kd{ch:Nat}:cU (aI ch)=cU ch:=by
 rw[Bool.eq_iff_iff,kD,kD,lK (by decide),lK (by decide),lK (by decide),lK (by decide),lK (by decide)]
theorem AB{h w:List Nat}:eV h (w.map aI)=cP h w:=by
 unfold eV cP
 rw[<-List.map_take,List.getElem?_map]
 congr 1
 cases w[h.length]?with
 |none=>rfl
 |some ch=>exact Kd
theorem Ms{x:Str}{pre seg w:List Nat}(hL:cps x=pre++(seg++62::w))(hs:∀y∈seg,y≠62):Txt.find3 x ">" ((pre.length:Nat):Int)=((pre.length+seg.length:Nat):Int):=by
 have h0:(">":Str)=⟨#[62]⟩:=by kernel_rfl
 have at_:∀v,pre.length<=v->v<pre.length+seg.length->∃y,(cps x)[v]?=some y/\y≠62:=λv V h2=>by
  have:(cps x)[v]?=seg[v-pre.length]?:=by rw[hL,List.getElem?_append_right V,List.getElem?_append_left (by lia)]
  rw[this,List.getElem?_eq_getElem (show v-pre.length<seg.length by lia)]
  exact⟨_,rfl,hs _ (List.getElem_mem _)⟩
 have U:(cps x)[pre.length+seg.length]?=some 62:=by
  rw[hL,List.getElem?_append_right (by lia),List.getElem?_append_right (by lia)]
  simp
 have hp:=(List.getElem?_eq_some_iff.mp U).1
 rw[bw]at hp
 rw[h0]
 rcases StrLaws.find3_spec x 62 ((pre.length:Nat):Int)with⟨f1,f2⟩|⟨k,f1,f2,f3,f4,W⟩
 ·rw[qw]at f2
  exact absurd (StrLaws.getD_of_getElem? U) (f2 _ (by lia) hp)
 ·rw[qw]at f2 W
  rw[f1]
  congr 1
  rcases Nat.lt_trichotomy k (pre.length+seg.length)with q|q|q
  ·obtain⟨y,X,y2⟩:=at_ k f2 q
   rw[StrLaws.getD_of_getElem? X]at f4
   exact absurd f4 y2
  ·exact q
  ·exact absurd (StrLaws.getD_of_getElem? U) (W _ (by lia) q)
section
variable{T:Str}{k:Nat}
theorem vd:cps (aX T)=(cps T).map aI:=rfl
theorem ve:(aX T).length=(cps T).length:=by rw[<-bw (x:=aX T),vd,List.length_map]
theorem QO(hS:k9 (cps T))(hk:k<=(cps T).length)(h:bG ((cps T).drop k)=true):fq (aX T) k=((k+bV ((cps T).drop k):Nat):Int):=by
 have hL:=(List.take_append_drop k (cps T)).symm
 obtain⟨ls,tail,its,r,U,V,hl,W⟩:=hS _ _ hL h
 obtain⟨mid,hm⟩:=uL W
 have X:bV ((cps T).drop k)=9+mid.length:=by rw[U,vF V hl hm]
 have Y:((cps T).take k).length=k:=by rw[List.length_take];lia
 have e:cps (aX T)=((cps T).take k).map aI++((60::47::(ls++mid)).map aI++62::r.map aI):=by
  rw[vd]
  conv=>lhs;rw[hL,U,hm.eq]
  unfold bR
  rw[List.map_append,show 60::47::(ls++(mid++62::r))=(60::47::(ls++mid))++62::r by simp,List.map_append];rfl
 have f:=Ms e (λy hy=>by
  obtain⟨a,ha,rfl⟩:=List.mem_map.mp hy
  rw[Ne,lK (by decide)]
  rcases List.mem_cons.mp ha with rfl|ha
  ·decide
  ·rcases List.mem_cons.mp ha with rfl|ha
   ·decide
   ·rcases List.mem_append.mp ha with ha|ha
    ·exact(r5 (hl a ha)).2
    ·exact hm.no a ha)
 rw[List.length_map,List.length_map,Y,List.length_cons,List.length_cons,List.length_append,V]at f
 unfold fq
 rw[f,X];lia
theorem Ke{t:TS}:iz (aX T) k t=if(k:Int)<t.fr then t else if aG t.z ((cps T).drop k)=0 then t else if aG t.z ((cps T).drop k)=1 then⟨0,fq (aX T) k,t.tu++[(fq (aX T) k,0)],t.ta++[((k:Int),fq (aX T) k)]⟩
 else⟨zn t.z (aG t.z ((cps T).drop k)),t.fr,t.tu++[(((k+ln (aG t.z ((cps T).drop k)):Nat):Int),((zn t.z (aG t.z ((cps T).drop k)):Nat):Int))],t.ta⟩:=by
 unfold iz
 rw[vd,<-List.map_drop,AB,AB,show cP iK=bG from rfl,show cP iJ=ci from rfl]
 have p3:(((cps T).drop k).map aI).take 3=[45,45,62]<->((cps T).drop k).take 3=[45,45,62]:=um (p:=[45,45,62]) (by decide)
 have p4:(((cps T).drop k).map aI).take 4=[60,33,45,45]<->((cps T).drop k).take 4=[60,33,45,45]:=um (p:=[60,33,45,45]) (by decide)
 by_cases hf:(k:Int)<t.fr
 ·rw[if_pos hf,if_pos hf]
 ·rw[if_neg hf,if_neg hf]
  generalize (cps T).drop k=w at p3 p4
  by_cases V:bG w=true
  ·rw[if_pos V,nN V]
   by_cases W:t.z<2
   ·rw[if_pos W,if_pos W];rfl
   ·rw[if_neg W,if_neg W];rfl
  ·have e:aG t.z w=if ci w=true/\t.z=1 then 3 else if t.z≠0/\w.take 3=[45,45,62]then 4 else if t.z=0/\w.take 4=[60,33,45,45]then 5 else 0:=if_neg V
   rw[if_neg V,e]
   by_cases q2:ci w=true/\t.z=1
   ·rw[if_pos q2,if_pos q2];rfl
   ·rw[if_neg q2,if_neg q2]
    by_cases q3:t.z≠0/\w.take 3=[45,45,62]
    ·rw[if_pos q3,if_pos ⟨q3.1,p3.mpr q3.2⟩];rfl
    ·rw[if_neg q3,if_neg (λh=>q3 ⟨h.1,p3.mp h.2⟩)]
     by_cases U:t.z=0/\w.take 4=[60,33,45,45]
     ·rw[if_pos U,if_pos ⟨U.1,p4.mpr U.2⟩];rfl
     ·rw[if_neg U,if_neg (λh=>U ⟨h.1,p4.mp h.2⟩)];rfl
theorem OG(hS:k9 (cps T)):∀{d k fr:Nat},k+d=(cps T).length->(tS (aX T) k).fr=(fr:Int)->
 (tS (aX T) (cps T).length).tu=(tS (aX T) k).tu++(a9 ((cps T).drop k) (tS (aX T) k).z fr k).1/\(tS (aX T) (cps T).length).ta=(tS (aX T) k).ta++(a9 ((cps T).drop k) (tS (aX T) k).z fr k).2:=by
 intro d
 induction d with
 |zero=>
  intro k fr hk hf
  have hk:k=(cps T).length:=hk
  rw[hk,List.drop_eq_nil_of_le (Nat.le_refl _)]
  exact⟨(List.append_nil _).symm,(List.append_nil _).symm⟩
 |succ d ih=>
  intro k fr hk hf
  obtain⟨ch,e⟩:∃ch,(cps T).drop k=ch::(cps T).drop (k+1):=⟨_,List.drop_eq_getElem_cons (show k<(cps T).length by lia)⟩
  have st:tS (aX T) (k+1)=iz (aX T) k (tS (aX T) k):=rfl
  rw[Ke]at st
  have U:=λX=>ih (k:=k+1) (fr:=X) (by lia)
  have Y:=λh=>QO (k:=k) hS (by lia) h
  generalize (tS (aX T) k)=t at hf st
  generalize (tS (aX T) (k+1))=J at st U
  have Z:a9 ((cps T).drop k) t.z fr k=if k<fr then a9 ((cps T).drop (k+1)) t.z fr (k+1)else if aG t.z ((cps T).drop k)=0 then a9 ((cps T).drop (k+1)) t.z fr (k+1)else if aG t.z ((cps T).drop k)=1 then((((k+bV ((cps T).drop k):Nat):Int),0)::(a9 ((cps T).drop (k+1)) 0 (k+bV ((cps T).drop k)) (k+1)).1,((k:Int),((k+bV ((cps T).drop k):Nat):Int))::(a9 ((cps T).drop (k+1)) 0 (k+bV ((cps T).drop k)) (k+1)).2)
   else((((k+ln (aG t.z ((cps T).drop k)):Nat):Int),((zn t.z (aG t.z ((cps T).drop k)):Nat):Int))::(a9 ((cps T).drop (k+1)) (zn t.z (aG t.z ((cps T).drop k))) fr (k+1)).1,(a9 ((cps T).drop (k+1)) (zn t.z (aG t.z ((cps T).drop k))) fr (k+1)).2):=by
   rw[e];rfl
  rw[Z]
  by_cases W:k<fr
  ·rw[if_pos (by rw[hf];lia)]at st
   subst st
   rw[if_pos W]
   exact U fr hf
  ·rw[if_neg (by rw[hf];lia)]at st
   rw[if_neg W]
   by_cases e0:aG t.z ((cps T).drop k)=0
   ·rw[if_pos e0]at st
    subst st
    rw[if_pos e0]
    exact U fr hf
   ·rw[if_neg e0]at st
    rw[if_neg e0]
    by_cases e1:aG t.z ((cps T).drop k)=1
    ·rw[if_pos e1,Y (pO e1)]at st
     subst st
     rw[if_pos e1]
     obtain⟨V,h2⟩:=U (k+bV ((cps T).drop k)) rfl
     dsimp only at V h2⊢
     rw[V,h2,List.append_assoc,List.append_assoc]
     exact⟨rfl,rfl⟩
    ·rw[if_neg e1]at st
     subst st
     rw[if_neg e1]
     obtain⟨V,h2⟩:=U fr hf
     dsimp only at V h2⊢
     rw[V,h2,List.append_assoc]
     exact⟨rfl,rfl⟩
noncomputable def i4(T:Str):List (Int×Int):=(tS (aX T) (aX T).length).tu
noncomputable def h_(T:Str):List (Int×Int):=(tS (aX T) (aX T).length).ta
theorem sI(hS:k9 (cps T)):i4 T=(0,0)::(a9 (cps T) 0 0 0).1/\h_ T=(a9 (cps T) 0 0 0).2:=by
 unfold i4 h_
 rw[ve]
 exact OG (k:=0) (fr:=0) hS (Nat.zero_add _) rfl
theorem Kf:∀{w:List Nat} {z fr k:Nat},∀t∈(a9 w z fr k).2,∃pre w',w=pre++w'/\bG w'=true/\t=(((k+pre.length:Nat):Int),((k+pre.length+bV w':Nat):Int)):=by
 intro w
 induction w with
 |nil=>exactλ{z fr k} t h=>(List.not_mem_nil h).elim
 |cons ch w ih=>
  intro z fr k t h
  have more:∀z fr,t∈(a9 w z fr (k+1)).2->∃pre w',ch::w=pre++w'/\bG w'=true/\t=(((k+pre.length:Nat):Int),((k+pre.length+bV w':Nat):Int)):=λz fr h=>by
   obtain⟨pre,w',V,h2,h3⟩:=ih t h
   exact⟨ch::pre,w',by rw[V];rfl,h2,by rw[h3,List.length_cons,show k+1+pre.length=k+(pre.length+1) by lia]⟩
  unfold a9 at h
  by_cases hf:k<fr
  ·rw[if_pos hf]at h;exact more _ _ h
  ·rw[if_neg hf]at h
   by_cases e0:aG z (ch::w)=0
   ·rw[if_pos e0]at h;exact more _ _ h
   ·rw[if_neg e0]at h
    by_cases e1:aG z (ch::w)=1
    ·rw[if_pos e1]at h
     rcases List.mem_cons.mp h with rfl|h
     ·exact⟨[],ch::w,rfl,pO e1,rfl⟩
     ·exact more _ _ h
    ·rw[if_neg e1]at h;exact more _ _ h
end
noncomputable def dl(s c:Nat):Nat:=
 if s=9 then 9 else if s=5\/s=7\/s=8 then(if c=62 then 0 else 9)else if s=6 then(if c=66 then 7 else 9)else
 if c=60 then 1 else if s=1/\c=47 then 2 else if(s=2\/s=3\/s=4)/\isLet c=true then(if c=97\/c=98 then 4 else 3)else
 if s=3/\cU c=true then(if c=62 then 0 else if c=32 then 5 else if c=10 then 6 else if c=47 then 8 else 9)else 0
noncomputable def dE(s:Nat)(w:List Nat):Nat:=w.foldl dl s
theorem lZ:∀w,dE 9 w=9
 |[]=>rfl
 |c::w=>by
  show dE (dl 9 c) w=9
  rw[show dl 9 c=9 from rfl]
  exact lZ w
theorem rl(s:Nat)(a b:List Nat):dE s (a++b)=dE (dE s a) b:=List.foldl_append
theorem QQ{s:Nat}:dl s 60=1\/dl s 60=9:=by
 unfold dl
 by_cases U:s=9
 ·rw[if_pos U];exact .inr rfl
 ·rw[if_neg U]
  by_cases h5:s=5\/s=7\/s=8
  ·rw[if_pos h5];exact .inr rfl
  ·rw[if_neg h5]
   by_cases V:s=6
   ·rw[if_pos V];exact .inr rfl
   ·rw[if_neg V];exact .inl rfl
theorem BE{s x:Nat}(hs:s=2\/s=3\/s=4)(hx:isLet x=true):dl s x=if x=97\/x=98 then 4 else 3:=by
 have U:=(jh hx).2.1
 unfold dl
 rw[if_neg (by lia),if_neg (by lia),if_neg (by lia),if_neg U,if_neg (by lia),if_pos ⟨hs,hx⟩]
theorem zc:∀{ls:List Nat} {s x:Nat},(s=2\/s=3\/s=4)->(∀y∈ls,isLet y=true)->isLet x=true->x≠97->x≠98->dE s (ls++[x])=3
 |[],s,x,hs,V,hx,h2,h3=>by
  show dl s x=3
  rw[BE hs hx,if_neg (by lia)]
 |a::ls,s,x,hs,V,hx,h2,h3=>by
  show dE (dl s a) (ls++[x])=3
  refine zc ?_ (λy hy=>V y (.tail _ hy)) hx h2 h3
  rw[BE hs (V a (.head _))]
  split<;>lia
theorem OH{tail:List Nat}{ch:Nat}{w:List Nat}(h:dE 3 tail<=4)(he:tail=ch::w)(hs:cU ch=true):∃its r,Tail tail its r:=by
 subst he
 have U:=qy hs
 have h3:dE 3 (ch::w)=dE (dl 3 ch) w:=rfl
 rw[h3]at h
 have hd:dl 3 ch=if ch=62 then 0 else if ch=32 then 5 else if ch=10 then 6 else if ch=47 then 8 else 9:=by
  unfold dl
  have V:ch≠60:=by rintro rfl;revert hs;decide
  rw[if_neg (by decide),if_neg (by decide),if_neg (by decide),if_neg V,if_neg (by lia),if_neg (λq=>by rw[q.2]at U;cases U),if_pos ⟨rfl,hs⟩]
 rcases kD.mp hs with rfl|rfl|rfl|rfl|rfl
 ·rw[hd]at h
  cases w with
  |nil=>exact absurd h (by decide)
  |cons a w=>
   have h:dE (dl 5 a) w<=4:=h
   by_cases ha:a=62
   ·subst ha;exact⟨_,_, .sp⟩
   ·rw[show dl 5 a=9 by unfold dl;rw[if_neg (by decide),if_pos (by decide),if_neg ha],lZ]at h
    lia
 ·rw[hd]at h
  have h:dE 9 w<=4:=h
  rw[lZ]at h;lia
 ·rw[hd]at h
  cases w with
  |nil=>exact absurd h (by decide)
  |cons a w=>
   have h:dE (dl 6 a) w<=4:=h
   by_cases ha:a=66
   ·subst ha
    cases w with
    |nil=>exact absurd h (by decide)
    |cons b w=>
     have h:dE (dl 7 b) w<=4:=h
     by_cases hb:b=62
     ·subst hb;exact⟨_,_, .nb (.inl rfl)⟩
     ·rw[show dl 7 b=9 by unfold dl;rw[if_neg (by decide),if_pos (by decide),if_neg hb],lZ]at h
      lia
   ·rw[show dl 6 a=9 by unfold dl;rw[if_neg (by decide),if_neg (by decide),if_pos rfl,if_neg ha],lZ]at h
    lia
 ·rw[hd]at h
  cases w with
  |nil=>exact absurd h (by decide)
  |cons a w=>
   have h:dE (dl 8 a) w<=4:=h
   by_cases ha:a=62
   ·subst ha;exact⟨_,_, .sl⟩
   ·rw[show dl 8 a=9 by unfold dl;rw[if_neg (by decide),if_pos (by decide),if_neg ha],lZ]at h
    lia
 ·exact⟨_,_, .gt⟩
theorem QR{L:List Nat}(h:dE 0 L<=4):k9 L:=by
 intro pre w' hL hs
 obtain⟨w1,e1,V⟩:=oS hs
 obtain⟨ls,ch,w2,e2,U,hl,W,Y⟩:=rK V
 obtain⟨l,x,e⟩:∃l x,ls=l++[x]:=⟨ls.dropLast,ls.getLast (λq=>by rw[q]at U;cases U),(List.dropLast_concat_getLast _).symm⟩
 have hx:=hl x (by rw[e];simp)
 have X:aI x=116:=by
  rw[e,List.map_append]at W
  have:=congrArg List.getLast? W
  rw[List.getLast?_append]at this
  have q:(some (aI x)).or ((l.map aI).getLast?)=fw.getLast?:=this
  exact Option.some.inj q
 have Z:x≠97:=by rintro rfl;revert X;decide
 have J:x≠98:=by rintro rfl;revert X;decide
 rw[hL,rl,e1,e2]at h
 generalize dE 0 pre=s at h
 have h:dE (dl (dl s 60) 47) (ls++ch::w2)<=4:=h
 have ht:∃its r,Tail (ch::w2) its r:=by
  rcases QQ (s:=s)with q|q
  ·rw[q,show dl 1 47=2 from rfl,rl,e,zc (.inl rfl) (λy hy=>hl y (by rw[e];exact List.mem_append.mpr (.inl hy))) hx Z J]at h
   exact OH h rfl Y
  ·rw[q,show dl 9 47=9 from rfl,lZ]at h
   lia
 obtain⟨its,r,ht⟩:=ht
 exact⟨ls,ch::w2,its,r,by rw[e1,e2];rfl,U,hl,ht⟩
noncomputable def pieces:List (List Nat):=[[60,33,45,45],[45,45,62],[60,115,99,114,105,112,116,62],[60,47,115,99,114,105,112,116,62],[60,47,83,67,82,73,80,84,47,62],[60,47,83,99,114,105,112,116,32,62],[60,47,115,99,114,105,112,116,10,66,62],[60,47,115,99,114,105,112],[60,47],[120,62,121],[60],[60,33,45],[115,99,114,105,112,116,62],[45,45],[0],[97,32,98,10],[60,83,67,82,73,80,84,10],[60,47,115,99,114,105,112,116,115,62],[45,62],[60,115,99,114,105,112,116,47]]
noncomputable def heads:List (List Nat):=[[60,33,45,45,60,115,99,114,105,112,116,62],[],[60,33,45,45],[60,33,45,45,60,115,99,114,105,112,116,62,60,47,115,99,114,105,112,116]]
theorem HC:∀s,s<=4->∀p∈pieces,dE s p<=4:=by
 intro s hs
 match s,hs with
 |0,_=>decide
 |1,_=>decide
 |2,_=>decide
 |3,_=>decide
 |4,_=>decide
theorem Kg:∀p∈heads,dE 0 p<=4:=by decide
theorem Kh:∀p∈heads,∀ch∈p,ch∈cH/\ch≠38/\ch≠12:=by decide
theorem zN:∀p∈heads,p.length<=20:=by decide
theorem A6:∀(l:List (List Nat)) (s:Nat),s<=4->(∀p∈l,p∈pieces)->dE s l.flatten<=4
 |[],s,hs,h=>hs
 |p::l,s,hs,h=>by
  rw[List.flatten_cons,rl]
  exact A6 l _ (HC s hs p (h p (.head _))) λq U=>h q (.tail _ U)
theorem HD:∀p∈pieces,∀ch∈p,ch∈cH/\ch≠38/\ch≠12:=by decide
theorem zd:∀p∈pieces,p.length<=11:=by decide
theorem Mu{l:List (List Nat)}(h:∀p∈l,p∈pieces):Sg l.flatten:=λch U=>by
 obtain⟨p,hp,U⟩:=List.mem_flatten.mp U
 exact HD p (h p hp) ch U
theorem uN:∀{l:List (List Nat)},(∀p∈l,p∈pieces)->l.flatten.length<=11*l.length
 |[],h=>by simp
 |p::l,h=>by
  rw[List.flatten_cons,List.length_append,List.length_cons]
  have:=zd p (h p (.head _))
  have:=uN (l:=l) λq U=>h q (.tail _ U)
  lia
noncomputable def lA(T:Str)(c:Nat):DC:=⟨T,aX T, .dat (.list (eC (i4 T))), .dat (.list (eC (h_ T))),(c:Int)⟩
noncomputable def nO(T:Str)(c:Nat):List RI:=pN (lA T c) (i4 T) (h_ T)
section
variable{T:Str}{c:Nat}
theorem Mv(hS:k9 (cps T))(U:c<=(cps T).length):gy ((cps T).take c) [] (nO T c):=by
 have r:=Kb (C:=lA T c) (c:=c) ⟨rfl,rfl,U⟩ hS (cps T).length 0 [] (Nat.sub_le ..) (Nat.zero_le _)
 rw[List.drop_zero]at r
 have e1:a9 ((cps (lA T c).T).drop 0) 0 0 0=a9 (cps T) 0 0 0:=by rw[List.drop_zero];rfl
 rw[e1]at r
 have e:nO T c=iP (lA T c) (a9 (cps T) 0 0 0).2 ((0:Nat):Int) [] (eW (c:Int) 0 (a9 (cps T) 0 0 0).1):=by
  have h0:nO T c=iP (lA T c) (h_ T) 0 [] (kO (c:Int) (i4 T)):=rfl
  rw[h0,(sI hS).1,(sI hS).2]
  have V:kO (c:Int) ((0,0)::(a9 (cps T) 0 0 0).1)=eW (c:Int) 0 (a9 (cps T) 0 0 0).1:=A4 (z:=0) (by lia)
  rw[V];rfl
 rw[e];exact r
theorem OI(hS:k9 (cps T))(J:c<=(cps T).length):wb (lA T c) (h_ T):=by
 intro t ht V h2
 rw[(sI hS).2]at ht
 obtain⟨pre,w',hL,hs,rfl⟩:=Kf t ht
 obtain⟨ls,tail,its,r,U,W,hl,X⟩:=hS _ _ hL hs
 obtain⟨mid,hm⟩:=uL X
 have Y:bV w'=9+mid.length:=by rw[U,vF W hl hm]
 rw[Nat.zero_add]at V h2⊢
 rw[Y]at h2
 have V:¬(c:Int)<((pre.length:Nat):Int)+9:=V
 have h2:(c:Int)<((pre.length+(9+mid.length):Nat):Int):=h2
 show(iM (aS (aX T) (((pre.length:Nat):Int)+8) (c:Int))).isSome=true
 have K:w'.length=8+tail.length:=by rw[U];unfold bR;rw[List.length_cons,List.length_cons,List.length_append,W];lia
 have L:(cps T).length=pre.length+w'.length:=by rw[hL,List.length_append]
 have N:T.length=(cps T).length:=bw.symm
 have G:tail.length=mid.length+1+r.length:=by rw[hm.eq,List.length_append,List.length_cons];lia
 rw[show(((pre.length:Nat):Int)+8)=((pre.length+8:Nat):Int) by lia,uM (by lia) (by lia)]
 have Z:(cps T).drop (pre.length+8)=tail:=by
  rw[hL,U,List.drop_length_add_append]
  unfold bR
  rw[show 8=ls.length+1+1 by lia,List.drop_succ_cons,List.drop_succ_cons,List.drop_left]
 obtain⟨e,k1,k2⟩:=hm.cut (c-(pre.length+8)) (by lia) (by lia)
 rw[List.drop_take,Z,k2];rfl
end
theorem mM(n:Int){m:Int}(h:0<m):0<=n.fmod m/\n.fmod m<m:=⟨Int.fmod_nonneg_of_pos n h,Int.fmod_lt_of_pos n h⟩
noncomputable def ee(n:Int):List Nat:=pieces.getD (n.fmod 20).toNat []
noncomputable def headOf(L:List Int):List Nat:=heads.getD (((L.take 1).sum.fdiv 20).fmod 4).toNat []
noncomputable def a_(L:List Int):List Nat:=headOf L++((L.take 6).map ee).flatten
noncomputable def g2(n:Int):Int:=(n.fdiv 20).fmod 20
noncomputable def fP(L:List Int):Int:=((L.take 6).map g2).sum.fmod 30+1
noncomputable def cutAt(L:List Int)(i:Nat)(n:Int):Int:=(n.fdiv 80+11+5*(i:Int)).fmod (((a_ L).length:Nat)+1)
section
variable{L:List Int}
theorem Ki(n:Int):ee n∈pieces:=by
 have h:=mM n (m:=20) (by decide)
 have hl:(n.fmod 20).toNat<pieces.length:=by show _<20;lia
 unfold ee
 rw[List.getD_eq_getElem?_getD,List.getElem?_eq_getElem hl]
 exact List.getElem_mem hl
theorem head_mem:headOf L∈heads:=by
 have h:=mM ((L.take 1).sum.fdiv 20) (m:=4) (by decide)
 have hl:(((L.take 1).sum.fdiv 20).fmod 4).toNat<heads.length:=by show _<4;lia
 unfold headOf
 rw[List.getD_eq_getElem?_getD,List.getElem?_eq_getElem hl]
 exact List.getElem_mem hl
theorem oc:∀p∈(L.take 6).map ee,p∈pieces:=λp hp=>by
 obtain⟨n,_,rfl⟩:=List.mem_map.mp hp
 exact Ki n
theorem text_len:(a_ L).length<=86:=by
 have V:=uN (oc (L:=L))
 have h2:=zN _ (head_mem (L:=L))
 rw[List.length_map,List.length_take]at V
 unfold a_
 rw[List.length_append]
 lia
theorem vf:Sg (a_ L):=λch U=>by
 rcases List.mem_append.mp U with U|U
 ·exact Kh _ head_mem ch U
 ·exact Mu oc ch U
theorem uO:k9 (a_ L):=by
 refine QR ?_
 unfold a_
 rw[rl]
 exact A6 _ _ (Kg _ head_mem) oc
theorem Kj:fP L=(((fP L).toNat:Nat):Int):=by
 have h:=mM ((L.take 6).map g2).sum (m:=30) (by decide)
 unfold fP
 lia
theorem Mw{i:Nat}{n:Int}:0<=cutAt L i n/\cutAt L i n<=((a_ L).length:Nat):=by
 have h:=mM (n.fdiv 80+11+5*(i:Int)) (m:=(((a_ L).length:Nat)+1:Int)) (by lia)
 unfold cutAt
 lia
noncomputable def a7(L:List Int):Str:=ag (a_ L)
noncomputable def i5(L:List Int)(c:Nat):Str:=ag ((a_ L).take c)
noncomputable def nr(L:List Int)(c:Nat):PyData:= .list ((nO (a7 L) c).map nL)
noncomputable def fA(L:List Int)(c:Nat):PyData:=outD (i5 L c) (nO (a7 L) c)
theorem Ct{c:Nat}(U:c<=(a_ L).length):∃m0,∀m,m0<=m->kY m [.str (i5 L c), .int (fP L)] (PD (fA L c)):=by
 refine Ma Kj ⟨λch V=> ?_,⟨Nat.zero_le _,λq W=>by cases W⟩, ?_,As⟩ (Mv (T:=a7 L) uO U)
 ·exact vf ch (List.mem_of_mem_take V)
 ·have:=text_len (L:=L)
  show(i5 L c).length<=2000
  unfold i5
  rw[de,List.length_take]
  lia
noncomputable def aD(L:List Int)(c:Nat):List U:=[.str (a7 L), .str (aX (a7 L)), .dat (.list (eC (i4 (a7 L)))), .dat (.list (eC (h_ (a7 L)))), .int (c:Int)]
noncomputable def aR(L:List Int)(c:Nat):List U:=[.str (i5 L c), .int (fP L)]
noncomputable abbrev SZ(args:List U)(P:U×ES->Prop):Prop:=sF (aL S1 fG 3000 40 813) args P
theorem QS{c:Nat}(U:c<=(a_ L).length):SZ (aD L c) (PD (nr L c)):=by
 have hl:=text_len (L:=L)
 have hT:(a7 L).length=(a_ L).length:=de
 have Y:(aX (a7 L)).length=(a_ L).length:=by rw[ve];rfl
 have ok:=v9 (x:=aX (a7 L)) (aX (a7 L)).length
 have V:(i4 (a7 L)).length<=87:=by have:=ok.tu;unfold i4;lia
 have h2:(h_ (a7 L)).length<=86:=by have:=ok.ta;unfold h_;lia
 have h3:(h_ (a7 L)).length*((a7 L).length+1)<=86*87:=Nat.mul_le_mul h2 (by lia)
 have W:bX (c:Int) (i4 (a7 L))≠[]:=by
  rw[(sI (T:=a7 L) uO).1]
  unfold bX
  rw[List.filter_cons,if_pos (decide_eq_true (by show(0:Int)<=_;lia))]
  exactλq=>by cases q
 obtain⟨xs,junk,X,he⟩:=J9 (C:=lA (a7 L) c) (tu:=i4 (a7 L)) (ta:=h_ (a7 L)) rfl rfl (by show(a7 L).length<=_;lia) (by show(aX (a7 L)).length<=_;lia) (by lia) (by lia) (by show _*((a7 L).length+1)<=_;lia) W (OI uO U)
 exact⟨DT.du he ⟨_,mA (l:=1) rfl (X.data _ _)⟩⟩
theorem both:∃m,∀c,c<=(a_ L).length->kY m (aR L c) (PD (fA L c)):=by
 have key:∀n,n<=(a_ L).length->∃m0,∀m,m0<=m->∀c,c<=n->kY m (aR L c) (PD (fA L c)):=by
  intro n
  induction n with
  |zero=>
   intro h
   obtain⟨m0,hm⟩:=Ct h
   exact⟨m0,λm V c h2=>by rw[Nat.le_zero.mp h2];exact hm m V⟩
  |succ n ih=>
   intro h
   obtain⟨m1,V⟩:=ih (by lia)
   obtain⟨m2,h2⟩:=Ct h
   refine⟨m1+m2,λm hm c U=> ?_⟩
   rcases Nat.lt_or_ge c (n+1)with q|q
   ·exact V m (by lia) c (by lia)
   ·rw[show c=n+1 by lia];exact h2 m (by lia)
 obtain⟨m,hm⟩:=key _ (Nat.le_refl _)
 exact⟨m,hm m (Nat.le_refl _)⟩
end
noncomputable def w5:List Stmt:=(aW 825).body
noncomputable def xZ:PySem.Expr->PySem.Expr
 | .Subscript e _ _=>e
 |_=>E0
section
variable(H:Addr->List U->EM U)
noncomputable abbrev aF(n:Nat):IH:=bM S1 H 3000 n (aW 825).scope [("text",0)]
noncomputable abbrev bh(i:Nat):Stmt:=aH w5 i
noncomputable def sJ(e:PySem.Expr):Scope:=cw (fp e).2.2.2.2 (aW 825).scope
noncomputable def sK(e:PySem.Expr):CL:=bW [("text",0)] (fp e).2.2.2.2.names
noncomputable def gY(n:Nat)(e:PySem.Expr):U->EM Unit:=bv S1 (sJ e) (sK e) (bM S1 H 3000 n (sJ e) (sK e)).E (fp e).2.1
noncomputable def kr(n:Nat)(e:PySem.Expr):EM Bool:=eB (bM S1 H 3000 n (sJ e) (sK e)).T (fp e).2.2.2.1
noncomputable def kt(n:Nat)(e:PySem.Expr):EM U:=(bM S1 H 3000 n (sJ e) (sK e)).E (fp e).1
noncomputable def jJ:PySem.Expr:=u9 (kW (cf (bh 0)))
noncomputable def fY:PySem.Expr:=kW (cf (bh 3))
noncomputable def jK:PySem.Expr:=u9 (jq (jq (cf (bh 4))))
noncomputable def j_(L:List Int):List U:=(L.map PyData.int).map bZ
noncomputable def cK(L:List Int):U:= .dat (.list (L.map PyData.int))
noncomputable def nt(L:List Int)(n:Nat):List U:=cut (j_ L) 0 (min n (j_ L).length)
noncomputable def vG:U:=(S1.glob "_law_PIECES").getD .none
theorem S0(n:Nat)(i:Int)(fs os:List AO):gY H (n+1) jJ (.int i) ⟨.frame []::fs,os⟩= .leaf ((),⟨.frame [("n", .int i)]::fs,os⟩):=by kernel_rfl
theorem S5(n:Nat)(i:Int)(a:U)(fs os:List AO):gY H (n+1) jJ (.int i) ⟨.frame [("n",a)]::fs,os⟩= .leaf ((),⟨.frame [("n", .int i)]::fs,os⟩):=by kernel_rfl
theorem UJ(n:Nat)(z:ES):kr H n jJ z= .leaf (true,z):=by kernel_rfl
theorem UK(n:Nat)(i:Int)(fs os:List AO):kt H (n+5) jJ ⟨.frame [("n", .int i)]::fs,os⟩= .test true (cG S1 vG (.int (i.fmod 20)) ⟨.frame [("n", .int i)]::fs,os⟩) .fail:=by kernel_rfl
theorem UL(z:ES):(List.range 20).map (λ(j:Nat)=>(cG S1 vG (.int (j:Int)) z).eval)=(List.range 20).map (λ(j:Nat)=>some (.str (ag (pieces.getD j [])),z)):=by kernel_rfl
theorem S6(n:Nat)(i:Int)(fs os:List AO):gY H (n+1) jK (.int i) ⟨.frame []::fs,os⟩= .leaf ((),⟨.frame [("n", .int i)]::fs,os⟩):=by kernel_rfl
theorem S7(n:Nat)(i:Int)(a:U)(fs os:List AO):gY H (n+1) jK (.int i) ⟨.frame [("n",a)]::fs,os⟩= .leaf ((),⟨.frame [("n", .int i)]::fs,os⟩):=by kernel_rfl
theorem UM(n:Nat)(z:ES):kr H n jK z= .leaf (true,z):=by kernel_rfl
theorem UN(n:Nat)(i:Int)(fs os:List AO):kt H (n+5) jK ⟨.frame [("n", .int i)]::fs,os⟩= .test true (.test true (.leaf (.int (g2 i),⟨.frame [("n", .int i)]::fs,os⟩)) .fail) .fail:=by kernel_rfl
theorem S8(n:Nat)(i k:Int)(fs os:List AO):gY H (n+1) fY (.tup [.int k, .int i]) ⟨.frame []::fs,os⟩= .leaf ((),⟨.frame [("i", .int k),("n", .int i)]::fs,os⟩):=by kernel_rfl
theorem S9(n:Nat)(i k:Int)(a b:U)(fs os:List AO):gY H (n+1) fY (.tup [.int k, .int i]) ⟨.frame [("i",a),("n",b)]::fs,os⟩= .leaf ((),⟨.frame [("i", .int k),("n", .int i)]::fs,os⟩):=by kernel_rfl
theorem UO(n:Nat)(z:ES):kr H n fY z= .leaf (true,z):=by kernel_rfl
theorem UP(n:Nat)(i k:Int)(T:Str)(fs os:List AO):(kt H (n+8) fY ⟨.frame [("i", .int k),("n", .int i)]::fs, .cell (some (.str T))::os⟩).run [true,true,true,true]=some ([true,true,fits T.length, !((T.length:Int)+1==0)],(.int ((i.fdiv 80+11+5*k).fmod ((T.length:Int)+1)),⟨.frame [("i", .int k),("n", .int i)]::fs, .cell (some (.str T))::os⟩)):=by kernel_rfl
end
section
variable(H:Addr->List U->EM U)
noncomputable def jL:PySem.Expr:=jq (cf (bh 0))
noncomputable def x_:PySem.Expr:=jq (jq (nq jL))
theorem OJ:(aF H 40).St (bh 0)=bd ((aF H 39).E (cf (bh 0))) λa=>bd (bv S1 (aW 825).scope [("text",0)] (aF H 39).E (g7 (bh 0)) a) λ_=>ak FL.next:=by kernel_rfl
theorem OK{es:List (Str×U)}{os:List AO}{a:U}:bv S1 (aW 825).scope [("text",0)] (aF H 39).E (g7 (bh 0)) a ⟨[.frame es], .cell none::os⟩= .leaf ((),⟨[.frame es], .cell (some a)::os⟩):=by kernel_rfl
theorem QT:(aF H 39).E (cf (bh 0))=bd ((aF H 38).E jL) λx=>bd ((aF H 38).E (kW (cf (bh 0)))) λy=>jn .Add x y:=by kernel_rfl
theorem QU:(aF H 38).E jL=bd ((aF H 37).E (xZ jL)) λv=>bd ((aF H 37).E (nq jL)) λk=>cG S1 v k:=by kernel_rfl
theorem QV{es:List (Str×U)}{os:List AO}:(aF H 37).E (xZ jL) ⟨[.frame es],os⟩=H 773 [] ⟨[.frame es],os⟩:=by kernel_rfl
theorem QW:(aF H 37).E (nq jL)=bd (bd ((aF H 35).E x_) λx=>jn .FloorDiv x (.int 20)) λx=>jn .Mod x (.int 4):=by kernel_rfl
theorem QX{L:List Int}{x0 x1:AO}:(aF H 35).E x_ ⟨[.frame [("script",cK L)]],[x0,x1]⟩= .test (fits (j_ L).length) (cO S1 H (.bi .sum) [.obj 2] ⟨[.frame [("script",cK L)]],[x0,x1, .list (nt L 1)]⟩) .fail:=by kernel_rfl
noncomputable def w6(l:Nat):Unit×ES->DT (U×ES):=λr=> .leaf (.obj l,r.2)
noncomputable def Di(n:Nat):U×ES->DT (List U×ES):=λr=>(bd (dw (aF H n).E []) λvs=>ak (r.1::vs)) r.2
noncomputable def Dj:List U×ES->DT (U×ES):=λr=>cO S1 H (.bi .join) ([.str ""]++r.1) r.2
theorem QY{L:List Int}{x0 x1 x2:AO}:(aF H 38).E (kW (cf (bh 0))) ⟨[.frame [("script",cK L)]],[x0,x1,x2]⟩= .test (fits (j_ L).length)
 ((((eP [] (dG (gY H 36 jJ) (kr H 36 jJ) (kt H 36 jJ) 4 (.live 3) 3000 0) ⟨[.frame [("script",cK L)]],[x0,x1,x2, .list (nt L 6), .list []]⟩).bind (w6 4)).bind (Di H 37)).bind (Dj H)) .fail:=by kernel_rfl
noncomputable def l0(L:List Int):List (Str×U):=[("script",cK L)]
noncomputable def k_(L:List Int)(lo:U):List (Str×U):=[("script",cK L),("low",lo)]
noncomputable def js(L:List Int)(lo tu ta:U):List (Str×U):=[("script",cK L),("low",lo),("turns",tu),("tags",ta)]
theorem OL:(aF H 40).St (bh 1)=bd ((aF H 39).E (cf (bh 1))) λa=>bd (bv S1 (aW 825).scope [("text",0)] (aF H 39).E (g7 (bh 1)) a) λ_=>ak FL.next:=by kernel_rfl
theorem QZ{L:List Int}{T:Str}{os:List AO}:(aF H 39).E (cf (bh 1)) ⟨[.frame (l0 L)], .cell (some (.str T))::os⟩=H 787 [.str T] ⟨[.frame (l0 L)], .cell (some (.str T))::os⟩:=by kernel_rfl
theorem Q0{L:List Int}{os:List AO}{a:U}:bv S1 (aW 825).scope [("text",0)] (aF H 39).E (g7 (bh 1)) a ⟨[.frame (l0 L)],os⟩= .leaf ((),⟨[.frame (k_ L a)],os⟩):=by kernel_rfl
theorem OM:(aF H 40).St (bh 2)=bd ((aF H 39).E (cf (bh 2))) λa=>bd (bv S1 (aW 825).scope [("text",0)] (aF H 39).E (g7 (bh 2)) a) λ_=>ak FL.next:=by kernel_rfl
theorem Q1{L:List Int}{lo:U}{os:List AO}:(aF H 39).E (cf (bh 2)) ⟨[.frame (k_ L lo)],os⟩=H 808 [lo] ⟨[.frame (k_ L lo)],os⟩:=by kernel_rfl
theorem Q2{L:List Int}{lo:U}{os:List AO}{d e:List PyData}:bv S1 (aW 825).scope [("text",0)] (aF H 39).E (g7 (bh 2)) (.dat (.tuple [.list d, .list e])) ⟨[.frame (k_ L lo)],os⟩= .leaf ((),⟨[.frame (js L lo (.dat (.list d)) (.dat (.list e)))],os⟩):=by kernel_rfl
noncomputable def lf(L:List Int)(lo tu ta cu:U):List (Str×U):=[("script",cK L),("low",lo),("turns",tu),("tags",ta),("cuts",cu)]
theorem ON:(aF H 40).St (bh 3)=bd ((aF H 39).E (cf (bh 3))) λa=>bd (bv S1 (aW 825).scope [("text",0)] (aF H 39).E (g7 (bh 3)) a) λ_=>ak FL.next:=by kernel_rfl
theorem Q3{L:List Int}{lo tu ta a:U}{os:List AO}:bv S1 (aW 825).scope [("text",0)] (aF H 39).E (g7 (bh 3)) a ⟨[.frame (js L lo tu ta)],os⟩= .leaf ((),⟨[.frame (lf L lo tu ta a)],os⟩):=by kernel_rfl
theorem Q4:(aF H 39).E (cf (bh 3))=bd ((aF H 38).E (jq (cf (bh 3)))) λx=>bd ((aF H 38).E fY) λy=>jn .Add x y:=by kernel_rfl
theorem Q5{L:List Int}{lo tu ta:U}{T:Str}{x1 x2 x3 x4:AO}:((aF H 38).E (jq (cf (bh 3))) ⟨[.frame (js L lo tu ta)],[.cell (some (.str T)),x1,x2,x3,x4]⟩).run [true,true]=some ([fits T.length,true],(.obj 5,⟨[.frame (js L lo tu ta)],[.cell (some (.str T)),x1,x2,x3,x4, .list [.int (T.length:Nat)]]⟩)):=by kernel_rfl
theorem Q6{L:List Int}{lo tu ta:U}{x0 x1 x2 x3 x4 V:AO}:(aF H 38).E fY ⟨[.frame (js L lo tu ta)],[x0,x1,x2,x3,x4,V]⟩= .test (fits (j_ L).length)
 ((eP [] (gV (gY H 37 fY) (kr H 37 fY) (kt H 37 fY) 7 6 3000 0) ⟨[.frame (js L lo tu ta)],[x0,x1,x2,x3,x4,V, .list (nt L 3), .list []]⟩).bind (w6 7)) .fail:=by kernel_rfl
end
noncomputable def nu:PySem.Expr->PySem.Expr
 | .Compare _ _ [r] _=>r
 |_=>E0
section
variable(H:Addr->List U->EM U)
noncomputable def sL:PySem.Expr:=jq (jq (cf (bh 4)))
noncomputable def w7(L:List Int)(lo tu ta cu:U)(sz:Int):List (Str×U):=[("script",cK L),("low",lo),("turns",tu),("tags",ta),("cuts",cu),("size", .int sz)]
theorem OO:(aF H 40).St (bh 4)=bd ((aF H 39).E (cf (bh 4))) λa=>bd (bv S1 (aW 825).scope [("text",0)] (aF H 39).E (g7 (bh 4)) a) λ_=>ak FL.next:=by kernel_rfl
theorem Q7{L:List Int}{lo tu ta cu:U}{os:List AO}{sz:Int}:bv S1 (aW 825).scope [("text",0)] (aF H 39).E (g7 (bh 4)) (.int sz) ⟨[.frame (lf L lo tu ta cu)],os⟩= .leaf ((),⟨[.frame (w7 L lo tu ta cu sz)],os⟩):=by kernel_rfl
theorem Q8:(aF H 39).E (cf (bh 4))=bd (bd ((aF H 37).E sL) λx=>jn .Mod x (.int 30)) λx=>jn .Add x (.int 1):=by kernel_rfl
theorem Q9{L:List Int}{lo tu ta cu:U}{x0 x1 x2 x3 x4 V W X x8:AO}:(aF H 37).E sL ⟨[.frame (lf L lo tu ta cu)],[x0,x1,x2,x3,x4,V,W,X,x8]⟩= .test (fits (j_ L).length)
 ((((eP [] (dG (gY H 35 jK) (kr H 35 jK) (kt H 35 jK) 10 (.live 9) 3000 0) ⟨[.frame (lf L lo tu ta cu)],[x0,x1,x2,x3,x4,V,W,X,x8, .list (nt L 6), .list []]⟩).bind (w6 10)).bind (Di H 36)).bind (λr=>cO S1 H (.bi .sum) r.1 r.2)) .fail:=by kernel_rfl
noncomputable def ku:Stmt:=bh 5
noncomputable def sM:U->EM Unit:=bv S1 (aW 825).scope [("text",0)] (aF H 39).E (ni ku)
noncomputable def sN:EM FL:=aB (aF H 39).St (dY ku)
noncomputable def fC:Stmt:=aH (dY ku) 1
noncomputable def d4(L:List Int)(lo tu ta cu:U)(sz:Int)(m:List (Str×U)):List (Str×U):=("script",cK L)::("low",lo)::("turns",tu)::("tags",ta)::("cuts",cu)::("size", .int sz)::m
noncomputable def dP(c:Int)(o:Option Nat):List (Str×U):=("cut", .int c)::match o with|none=>[]|some l=>[("lines", .obj l)]
noncomputable def sO(p:Option (Int×Nat)):List (Str×U):=match p with|none=>[]|some (c,l)=>[("cut", .int c),("lines", .obj l)]
variable{L:List Int}{lo tu ta cu:U}{sz c:Int}{T:Str}{os:List AO}{l:Nat}
theorem Q_:(aF H 40).St ku ⟨[.frame (d4 L lo tu ta (.obj 8) sz [])],os⟩=gL 8 (λ_=>cQ (sM H) (sN H) (.live 8) 3000 0) ⟨[.frame (d4 L lo tu ta (.obj 8) sz [])],os⟩:=by kernel_rfl
theorem Ra{p:Option (Int×Nat)}:sM H (.int c) ⟨[.frame (d4 L lo tu ta cu sz (sO p))],os⟩= .leaf ((),⟨[.frame (d4 L lo tu ta cu sz (dP c (p.map (·.2))))],os⟩):=by
 rcases p with _|⟨U,V⟩<;>kernel_rfl
theorem Rb{o:Option Nat}:((aF H 39).St (aH (dY ku) 0) ⟨[.frame (d4 L lo tu ta cu sz (dP c o))], .cell (some (.str T))::os⟩).run [true,true]=some ([fits T.length,fits (aV T 0 (dZ T.length c)).length&&true],(FL.next,⟨[.frame (d4 L lo tu ta cu sz (dP c (some (os.length+1))))], .cell (some (.str T))::(os++[.list ((Txt.split (aV T 0 (dZ T.length c)) "\n").map U.str)])⟩)):=by
 cases o<;>kernel_rfl
theorem S_:sN H=aB (aF H 39).St [aH (dY ku) 0,fC]:=by kernel_rfl
theorem Ta:(aF H 39).St fC=bd (bd ((aF H 37).E (nM (dp fC))) λv=>bd ((aF H 37).E (nu (dp fC))) λu=>ft .NotEq v u) λc=>aE c (aB (aF H 38).St (dC fC)) (ak FL.next):=by kernel_rfl
theorem Tb:(aF H 37).E (nM (dp fC)) ⟨[.frame (d4 L lo tu ta cu sz (dP c (some l)))], .cell (some (.str T))::os⟩= .test (fits T.length) (H 820 [.str (aV T 0 (dZ T.length c)), .int sz] ⟨[.frame (d4 L lo tu ta cu sz (dP c (some l)))], .cell (some (.str T))::os⟩) .fail:=by kernel_rfl
noncomputable def pP:PySem.Expr:=nI (sx (nu (dp fC))) 1
theorem Tc:(aF H 37).E (nu (dp fC)) ⟨[.frame (d4 L lo tu ta cu sz (dP c (some l)))], .cell (some (.str T))::os⟩=(bd (bd (H 813 [.str T,lo,tu,ta, .int c]) λv=>bd (bd ((aF H 36).E pP) λw=>ak [w, .none]) λvs=>ak (v::vs)) λvs=>aE (fits vs.length) (ak (.tup vs)) ae) ⟨[.frame (d4 L lo tu ta cu sz (dP c (some l)))], .cell (some (.str T))::os⟩:=by kernel_rfl
noncomputable def sP:PySem.Expr:=nI (sx pP) 1
theorem Td:(aF H 36).E pP ⟨[.frame (d4 L lo tu ta cu sz (dP c (some l)))],os⟩=(bd (bd (cO S1 H (.bi .len) [.obj l]) λa=>bd (bd ((aF H 35).E sP) λb=>ak [b]) λvs=>ak (a::vs)) λvs=>aE (fits vs.length) (ak (.tup vs)) ae) ⟨[.frame (d4 L lo tu ta cu sz (dP c (some l)))],os⟩:=by kernel_rfl
theorem Rc:(aF H 35).E sP ⟨[.frame (d4 L lo tu ta cu sz (dP c (some l)))],os⟩=(bd (bd (cG S1 (.obj l) (.int (-1))) λx=>ak [x]) λvs=>cO S1 H (.bi .len) vs) ⟨[.frame (d4 L lo tu ta cu sz (dP c (some l)))],os⟩:=by kernel_rfl
theorem Te(z:ES):(aF H 40).St (bh 6) z= .leaf (FL.ret (.bool true),z):=by kernel_rfl
theorem Tf:w5=[bh 0,bh 1,bh 2,bh 3,bh 4,ku,bh 6]:=by kernel_rfl
theorem Th:aL S1 H 3000 40 825 [cK L] ⟨[],[]⟩=finish (aB (aF H 40).St w5 ⟨[.frame [("script",cK L)]],[.cell none]⟩):=
 uh (fi:=aW 825) (cl:=[("text",0)]) (bs:=[("script",cK L)]) (z1:=⟨[.frame []],[.cell none]⟩) (by kernel_rfl) (by kernel_rfl) (by kernel_rfl) (by kernel_rfl)
end
section
variable{asg:U->EM Unit}{t:EM Bool}{e:EM U}{fs base:List AO}{s:Nat}{xs:List Int}
theorem wd{α:Type}{l:List α}{x:α}:(l++[x])[l.length]?=some x:=by simp
theorem Cu{α:Type}{l:List α}{x y:α}:(l++[x]).set l.length y=l++[y]:=by simp
noncomputable def n6(xs:List Int):Nat->List (Str×U)
 |0=>[]
 |i+1=>[("n", .int (xs.getD i 0))]
theorem zO{g:Int->U}(hs:base[s]?=some (.list (xs.map U.int)))(hn:xs.length<=100)
 (W:∀i os,asg (.int i) ⟨.frame []::fs,os⟩= .leaf ((),⟨.frame [("n", .int i)]::fs,os⟩))(X:∀i a os,asg (.int i) ⟨.frame [("n",a)]::fs,os⟩= .leaf ((),⟨.frame [("n", .int i)]::fs,os⟩))
 (ht:∀z,t z= .leaf (true,z))(he:∀i os,(e ⟨.frame [("n", .int i)]::fs,os⟩).eval=some (g i,⟨.frame [("n", .int i)]::fs,os⟩)):
 (eP [] (dG asg t e base.length (.live s) 3000 0) ⟨fs,base++[.list []]⟩).eval=some ((),⟨fs,base++[.list (xs.map g)]⟩):=by
 have key:∀n i,xs.length<n+i->i<=xs.length->(dG asg t e base.length (.live s) n i ⟨.frame (n6 xs i)::fs,base++[.list ((xs.take i).map g)]⟩).eval=some ((),⟨.frame (n6 xs xs.length)::fs,base++[.list (xs.map g)]⟩):=by
  intro n
  induction n with
  |zero=>intro i V h2;lia
  |succ n ih=>
   intro i V h2
   have Y:(base++[AO.list ((xs.take i).map g)])[s]?=some (.list (xs.map U.int)):=by rw[List.getElem?_append_left (List.getElem?_eq_some_iff.mp hs).1];exact hs
   have e0:dG asg t e base.length (.live s) (n+1) i ⟨.frame (n6 xs i)::fs,base++[.list ((xs.take i).map g)]⟩=(match(xs.map U.int)[i]?with
    |none=>ak ()
    |some x=>bd (asg x) λ_=>bd t λok=>aE ok
     (bd e λy=>bd (app base.length y) λ_=>dG asg t e base.length (.live s) n (i+1))
     (dG asg t e base.length (.live s) n (i+1)):EM Unit) ⟨.frame (n6 xs i)::fs,base++[.list ((xs.take i).map g)]⟩:=by
    show gL s _ _=_
    rw[iw Y];try rfl
   rw[e0,List.getElem?_map]
   cases ho:xs[i]?with
   |none=>
    have:=List.getElem?_eq_none_iff.mp ho
    have:i=xs.length:=by lia
    subst this
    rw[List.take_length];rfl
   |some x=>
    have Z:=(List.getElem?_eq_some_iff.mp ho).1
    have J:xs.getD i 0=x:=by simp[List.getD,ho]
    have K:(asg (.int x) ⟨.frame (n6 xs i)::fs,base++[.list ((xs.take i).map g)]⟩).eval=some ((),⟨.frame [("n", .int x)]::fs,base++[.list ((xs.take i).map g)]⟩):=by
     cases i with
     |zero=>exact congrArg DT.eval (W x _)
     |succ i=>exact congrArg DT.eval (X x _ _)
    refine(DT.aC K).trans ((DT.aC (congrArg DT.eval (ht _))).trans ((DT.aC (he x _)).trans ((DT.aC (vC wd (bq ?_))).trans ?_)))
    ·rw[List.length_map,List.length_take];lia
    ·rw[Cu]
     have:=ih (i+1) (by lia) Z
     rw[List.take_add_one,ho,List.map_append,show n6 xs (i+1)=([("n", .int (xs.getD i 0))]:List (Str×U))from rfl,J]at this
     exact this
 exact(DT.aC (key 3000 0 (by lia) (Nat.zero_le _))).trans rfl
noncomputable def tK(xs:List Int):Nat->List (Str×U)
 |0=>[]
 |i+1=>[("i", .int (i:Nat)),("n", .int (xs.getD i 0))]
theorem HE{g:Nat->Int->U}(hs:base[s]?=some (.list (xs.map U.int)))(hn:xs.length<=100)
 (W:∀k i os,asg (.tup [.int k, .int i]) ⟨.frame []::fs,os⟩= .leaf ((),⟨.frame [("i", .int k),("n", .int i)]::fs,os⟩))(X:∀k i a b os,asg (.tup [.int k, .int i]) ⟨.frame [("i",a),("n",b)]::fs,os⟩= .leaf ((),⟨.frame [("i", .int k),("n", .int i)]::fs,os⟩))
 (ht:∀z,t z= .leaf (true,z))(he:∀(k:Nat) i o,(e ⟨.frame [("i", .int k),("n", .int i)]::fs,base++[o]⟩).eval=some (g k i,⟨.frame [("i", .int k),("n", .int i)]::fs,base++[o]⟩)):
 (eP [] (gV asg t e base.length s 3000 0) ⟨fs,base++[.list []]⟩).eval=some ((),⟨fs,base++[.list ((List.range xs.length).map λk=>g k (xs.getD k 0))]⟩):=by
 have key:∀n i,xs.length<n+i->i<=xs.length->(gV asg t e base.length s n i ⟨.frame (tK xs i)::fs,base++[.list ((List.range i).map λk=>g k (xs.getD k 0))]⟩).eval=some ((),⟨.frame (tK xs xs.length)::fs,base++[.list ((List.range xs.length).map λk=>g k (xs.getD k 0))]⟩):=by
  intro n
  induction n with
  |zero=>intro i V h2;lia
  |succ n ih=>
   intro i V h2
   have Y:(base++[AO.list ((List.range i).map λk=>g k (xs.getD k 0))])[s]?=some (.list (xs.map U.int)):=by rw[List.getElem?_append_left (List.getElem?_eq_some_iff.mp hs).1];exact hs
   show(gL s _ _).eval=_
   rw[iw Y,List.getElem?_map]
   cases ho:xs[i]?with
   |none=>
    have:=List.getElem?_eq_none_iff.mp ho
    have:i=xs.length:=by lia
    subst this
    rfl
   |some x=>
    have Z:=(List.getElem?_eq_some_iff.mp ho).1
    have J:xs.getD i 0=x:=by simp[List.getD,ho]
    have K:(asg (.tup [.int (i:Nat), .int x]) ⟨.frame (tK xs i)::fs,base++[.list ((List.range i).map λk=>g k (xs.getD k 0))]⟩).eval=some ((),⟨.frame [("i", .int (i:Nat)),("n", .int x)]::fs,base++[.list ((List.range i).map λk=>g k (xs.getD k 0))]⟩):=by
     cases i with
     |zero=>exact congrArg DT.eval (W _ x _)
     |succ i=>exact congrArg DT.eval (X _ x _ _ _)
    refine(DT.aC K).trans ((DT.aC (congrArg DT.eval (ht _))).trans ((DT.aC (he i x _)).trans ((DT.aC (vC wd (bq ?_))).trans ?_)))
    ·rw[List.length_map,List.length_range];lia
    ·rw[Cu]
     have:=ih (i+1) (by lia) Z
     rw[List.range_succ,List.map_append,show tK xs (i+1)=([("i", .int (i:Nat)),("n", .int (xs.getD i 0))]:List (Str×U))from rfl,List.map_singleton,J]at this
     exact this
 exact(DT.aC (key 3000 0 (by lia) (Nat.zero_le _))).trans rfl
end
section
variable{L:List Int}{n:Nat}
theorem rm:nt L n=(L.take n).map U.int:=by
 unfold nt cut j_
 have e:(L.map PyData.int).map bZ=L.map U.int:=by rw[List.map_map];rfl
 rw[e,List.drop_zero,<-List.take_take,List.take_length,List.map_take]
theorem vg(hL:L.length<=100):fits (j_ L).length=true:=bq (by unfold j_;rw[List.length_map,List.length_map];lia)
theorem Kk(i:Int)(z:ES):(cG S1 vG (.int (i.fmod 20)) z).eval=some (.str (ag (ee i)),z):=by
 have h:=mM i (m:=20) (by decide)
 have e:i.fmod 20=(((i.fmod 20).toNat:Nat):Int):=by lia
 have:=fQ (UL z) (i.fmod 20).toNat (List.mem_range.mpr (by lia))
 rw[<-e]at this
 exact this
theorem HF(ps:List (List Nat)):Txt.join "" (ps.map ag)=ag ps.flatten:=by
 have key:∀(ps:List (List Nat)) (acc:Array Nat),(ps.map ag).foldl (λacc p=>acc++(Str.ofString "").cps++p.cps) acc=acc++ps.flatten.toArray:=by
  intro ps
  induction ps with
  |nil=>intro acc;simp
  |cons c ps ih=>
   intro acc
   rw[List.map_cons,List.foldl_cons,ih]
   show acc++#[]++c.toArray++ps.flatten.toArray=_
   simp
 cases ps with
 |nil=>rfl
 |cons c ps=>
  show(⟨(ps.map ag).foldl (λacc p=>acc++(Str.ofString "").cps++p.cps) c.toArray⟩:Str)=_
  rw[key]
  show(⟨c.toArray++ps.flatten.toArray⟩:Str)=⟨(c::ps).flatten.toArray⟩
  simp
theorem zf:∀l:List Int,intsOf (l.map U.int)=some l
 |[]=>rfl
 |a::l=>by
  show(intsOf (l.map U.int)).map (a::·)=_
  rw[zf l];rfl
theorem BF{H:Addr->List U->EM U}{z:ES}{l:Nat}{xs:List Int}(h:z.os[l]?=some (.list (xs.map U.int))):(cO S1 H (.bi .sum) [.obj l] z).eval=some (.int xs.sum,z):=by
 show(gL l (λxs=>bl (intsOf xs) λis=>ak (U.int is.sum)) z).eval=_
 rw[iw h]
 show(bl (intsOf (xs.map U.int)) _ z).eval=_
 rw[zf];rfl
end
noncomputable def io:List U:=heads.map λp=>U.str (ag p)
section
variable(H:Addr->List U->EM U){L:List Int}
theorem OQ(z:ES)(x0 x2:AO)(fr:List AO)(U:z=⟨fr,[x0, .list io,x2]⟩):(List.range 4).map (λ(j:Nat)=>(cG S1 (.obj 1) (.int (j:Int)) z).eval)=(List.range 4).map (λ(j:Nat)=>some (.str (ag (heads.getD j [])),z)):=by
 subst U;kernel_rfl
theorem Mx(z:ES)(x0 x2:AO)(fr:List AO)(U:z=⟨fr,[x0, .list io,x2]⟩):(cG S1 (.obj 1) (.int ((((L.take 1).sum.fdiv 20)).fmod 4)) z).eval=some (.str (ag (headOf L)),z):=by
 have h:=mM ((L.take 1).sum.fdiv 20) (m:=4) (by decide)
 have:=fQ (OQ z x0 x2 fr U) (((L.take 1).sum.fdiv 20).fmod 4).toNat (List.mem_range.mpr (by lia))
 rw[show(((((L.take 1).sum.fdiv 20).fmod 4).toNat:Nat):Int)=((L.take 1).sum.fdiv 20).fmod 4 by lia]at this
 exact this
noncomputable def l5(L:List Int):List U:=(L.take 6).map λn=>U.str (ag (ee n))
theorem vh{n:Nat}(hL:L.length<=100):(L.take n).length<=100:=by rw[List.length_take];lia
theorem My{x0 x1 x2 x3:AO}{fr:List AO}:(Dj H ([.obj 4],⟨fr,[x0,x1,x2,x3, .list (l5 L)]⟩)).eval=some (.str (ag ((L.take 6).map ee).flatten),⟨fr,[x0,x1,x2,x3, .list (l5 L)]⟩):=by
 have e:l5 L=(((L.take 6).map ee).map ag).map U.str:=by unfold l5;rw[List.map_map,List.map_map];rfl
 rw[e]
 show(bl (strsOf ((((L.take 6).map ee).map ag).map U.str)) (λys=>aE (JoinOk "" ys) (ak (U.str (Txt.join "" ys))) ae) (⟨fr,[x0,x1,x2,x3, .list ((((L.take 6).map ee).map ag).map U.str)]⟩:ES)).eval=_
 rw[yX]
 have V:JoinOk "" (((L.take 6).map ee).map ag)=true:=by
  refine joinOk_of_weight ?_ (by decide)
  have key:∀l:List (List Nat),(∀p∈l,p∈pieces)->((l.map ag).map (·.length)).sum<=11*l.length:=by
   intro l
   induction l with
   |nil=>intro _;simp
   |cons p l ih=>
    intro h
    rw[List.map_cons,List.map_cons,List.sum_cons,List.length_cons,de]
    have:=zd p (h p (.head _))
    have:=ih λq W=>h q (.tail _ W)
    lia
  have:=key ((L.take 6).map ee) oc
  rw[List.length_map,List.length_take]at this
  rw[List.length_map,List.length_map,List.length_take]
  lia
 show(DT.test (JoinOk "" (((L.take 6).map ee).map ag)) (.leaf (U.str (Txt.join "" (((L.take 6).map ee).map ag)),_)) .fail:DT (U×ES)).eval=_
 rw[V,HF];rfl
theorem Rd(hL:L.length<=100)(X:∀fs os,H 773 [] ⟨fs,os⟩= .test true (.leaf (.obj os.length,⟨fs,os++[.list io]⟩)) .fail):
 ((aF H 40).St (bh 0) ⟨[.frame [("script",cK L)]],[.cell none]⟩).eval=some (FL.next,⟨[.frame (l0 L)],[.cell (some (.str (a7 L))), .list io, .list ((L.take 1).map U.int), .list ((L.take 6).map U.int), .list (l5 L)]⟩):=by
 have hf:=vg (L:=L) hL
 let z1:ES:=⟨[.frame [("script",cK L)]],[.cell none, .list io]⟩
 let W:ES:=⟨[.frame [("script",cK L)]],[.cell none, .list io, .list ((L.take 1).map U.int)]⟩
 let z3:ES:=⟨[.frame [("script",cK L)]],[.cell none, .list io, .list ((L.take 1).map U.int), .list ((L.take 6).map U.int), .list (l5 L)]⟩
 have e1:((aF H 37).E (xZ jL) ⟨[.frame [("script",cK L)]],[.cell none]⟩).eval=some (.obj 1,z1):=by rw[QV,X];rfl
 have e2:((aF H 35).E x_ z1).eval=some (.int (L.take 1).sum,W):=by
  rw[QX,hf,rm,gu]
  exact BF rfl
 have e3:((aF H 37).E (nq jL) z1).eval=some (.int (((L.take 1).sum.fdiv 20).fmod 4),W):=by
  rw[QW]
  exact(DT.aC ((DT.aC e2).trans (c:=some (.int ((L.take 1).sum.fdiv 20),W)) rfl)).trans rfl
 have Y:((aF H 38).E jL ⟨[.frame [("script",cK L)]],[.cell none]⟩).eval=some (.str (ag (headOf L)),W):=by
  rw[QU]
  exact pM e1 e3 (Mx W _ _ _ rfl)
 have Z:((aF H 38).E (kW (cf (bh 0))) W).eval=some (.str (ag ((L.take 6).map ee).flatten),z3):=by
  rw[QY,hf,rm,gu]
  have c:=zO (asg:=gY H 36 jJ) (t:=kr H 36 jJ) (e:=kt H 36 jJ) (base:=[.cell none, .list io, .list ((L.take 1).map U.int), .list ((L.take 6).map U.int)]) (fs:=[.frame [("script",cK L)]]) (s:=3) (xs:=L.take 6) (g:=λn=> .str (ag (ee n))) rfl (vh hL) (λi os=>S0 H 35 i _ os) (λi a os=>S5 H 35 i a _ os) (λz=>UJ H 36 z) (λi os=>by rw[UK H 31 i,gu];exact Kk i _)
  refine(DT.aC ((DT.aC ((DT.aC c).trans (c:=some (.obj 4,z3)) rfl)).trans (c:=some ([.obj 4],z3)) rfl)).trans ?_
  exact My H
 have J:((aF H 39).E (cf (bh 0)) ⟨[.frame [("script",cK L)]],[.cell none]⟩).eval=some (.str (a7 L),z3):=by
  rw[QT]
  refine pM Y Z ?_
  have V:=zN _ (head_mem (L:=L))
  have h2:=uN (oc (L:=L))
  rw[List.length_map,List.length_take]at h2
  show(DT.test (fits (ag (headOf L)).length&&fits (ag ((L.take 6).map ee).flatten).length) (.leaf (U.str (ag (headOf L)++ag ((L.take 6).map ee).flatten),z3)) .fail:DT (U×ES)).eval=_
  rw[bq (by rw[de];lia),bq (by rw[de];lia),gm];rfl
 rw[OJ]
 exact(DT.aC J).trans ((DT.aC (congrArg DT.eval (OK H))).trans rfl)
end
noncomputable def iA(L:List Int):List U:=(List.range (L.take 3).length).map λk=>U.int (cutAt L k ((L.take 3).getD k 0))
noncomputable def kP(L:List Int):List U:= .int ((a_ L).length:Nat)::iA L
theorem zP{L:List Int}:(iA L).length<=3:=by
 unfold iA
 rw[List.length_map,List.length_range,List.length_take];lia
theorem Kl{L:List Int}{i:Nat}{x:U}(h:(kP L)[i]?=some x):∃c:Nat,c<=(a_ L).length/\x= .int (c:Nat):=by
 cases i with
 |zero=>cases h;exact⟨_,Nat.le_refl _,rfl⟩
 |succ i=>
  have h:(iA L)[i]?=some x:=h
  unfold iA at h
  obtain⟨k,_,rfl⟩:=List.mem_map.mp (List.mem_of_getElem? h)
  obtain⟨V,h2⟩:=Mw (L:=L) (i:=k) (n:=(L.take 3).getD k 0)
  exact⟨(cutAt L k ((L.take 3).getD k 0)).toNat,by lia,by rw[show(((cutAt L k ((L.take 3).getD k 0)).toNat:Nat):Int)=cutAt L k ((L.take 3).getD k 0) by lia]⟩
section
variable(H:Addr->List U->EM U){L:List Int}{x1 x2 x3 x4:AO}
noncomputable def b6(L:List Int):AO:= .cell (some (.str (a7 L)))
noncomputable def el(L:List Int):U:= .str (aX (a7 L))
noncomputable def gH(L:List Int):U:= .dat (.list (eC (i4 (a7 L))))
noncomputable def gJ(L:List Int):U:= .dat (.list (eC (h_ (a7 L))))
theorem Re(h:∀z,(H 787 [.str (a7 L)] z).eval=some (.str (aX (a7 L)),z)):((aF H 40).St (bh 1) ⟨[.frame (l0 L)],[b6 L,x1,x2,x3,x4]⟩).eval=some (FL.next,⟨[.frame (k_ L (el L))],[b6 L,x1,x2,x3,x4]⟩):=by
 have e:((aF H 39).E (cf (bh 1)) ⟨[.frame (l0 L)],[b6 L,x1,x2,x3,x4]⟩).eval=some (el L,⟨[.frame (l0 L)],[b6 L,x1,x2,x3,x4]⟩):=by
  unfold b6
  rw[QZ];exact h _
 rw[OL]
 exact(DT.aC e).trans ((DT.aC (congrArg DT.eval (Q0 H))).trans rfl)
theorem Rf(h:∀z,(H 808 [.str (aX (a7 L))] z).eval=some (.dat (kL (aX (a7 L))),z)):((aF H 40).St (bh 2) ⟨[.frame (k_ L (el L))],[b6 L,x1,x2,x3,x4]⟩).eval=some (FL.next,⟨[.frame (js L (el L) (gH L) (gJ L))],[b6 L,x1,x2,x3,x4]⟩):=by
 have e:((aF H 39).E (cf (bh 2)) ⟨[.frame (k_ L (el L))],[b6 L,x1,x2,x3,x4]⟩).eval=some (.dat (kL (aX (a7 L))),⟨[.frame (k_ L (el L))],[b6 L,x1,x2,x3,x4]⟩):=by
  rw[Q1];exact h _
 rw[OM]
 exact(DT.aC e).trans ((DT.aC (congrArg DT.eval (Q2 H))).trans rfl)
theorem Rg(hL:L.length<=100):((aF H 40).St (bh 3) ⟨[.frame (js L (el L) (gH L) (gJ L))],[b6 L,x1,x2,x3,x4]⟩).eval=some (FL.next,⟨[.frame (lf L (el L) (gH L) (gJ L) (.obj 8))],[b6 L,x1,x2,x3,x4, .list [.int ((a_ L).length:Nat)], .list ((L.take 3).map U.int), .list (iA L), .list (kP L)]⟩):=by
 have hf:=vg (L:=L) hL
 have tl:=text_len (L:=L)
 have hT:(a7 L).length=(a_ L).length:=de
 let fr:List AO:=[.frame (js L (el L) (gH L) (gJ L))]
 let z5:ES:=⟨fr,[b6 L,x1,x2,x3,x4, .list [.int ((a_ L).length:Nat)]]⟩
 let W:ES:=⟨fr,[b6 L,x1,x2,x3,x4, .list [.int ((a_ L).length:Nat)], .list ((L.take 3).map U.int), .list (iA L)]⟩
 let V:ES:=⟨fr,[b6 L,x1,x2,x3,x4, .list [.int ((a_ L).length:Nat)], .list ((L.take 3).map U.int), .list (iA L), .list (kP L)]⟩
 have e1:((aF H 38).E (jq (cf (bh 3))) ⟨fr,[b6 L,x1,x2,x3,x4]⟩).eval=some (.obj 5,z5):=by
  have:=DT.aQ (Q5 H (L:=L) (lo:=el L) (tu:=gH L) (ta:=gJ L) (T:=a7 L) (x1:=x1) (x2:=x2) (x3:=x3) (x4:=x4)) (by rw[bq (by lia)])
  rw[hT]at this
  exact this
 have e2:((aF H 38).E fY z5).eval=some (.obj 7,W):=by
  show((aF H 38).E fY ⟨[.frame (js L (el L) (gH L) (gJ L))],[b6 L,x1,x2,x3,x4, .list [.int ((a_ L).length:Nat)]]⟩).eval=_
  rw[Q6,hf,rm,gu]
  have c:=HE (asg:=gY H 37 fY) (t:=kr H 37 fY) (e:=kt H 37 fY) (base:=[b6 L,x1,x2,x3,x4, .list [.int ((a_ L).length:Nat)], .list ((L.take 3).map U.int)]) (fs:=fr) (s:=6) (xs:=L.take 3) (g:=λk n=> .int (cutAt L k n)) rfl (vh hL) (λk i os=>S8 H 36 i k _ os) (λk i a b os=>S9 H 36 i k a b _ os) (λz=>UO H 37 z) (λk i o=>by
   have:=DT.aQ (UP H 29 i (k:Int) (a7 L) fr [x1,x2,x3,x4, .list [.int ((a_ L).length:Nat)], .list ((L.take 3).map U.int),o]) (by rw[bq (by lia),show(!(((a7 L).length:Int)+1==0))=true by rw[Bool.not_eq_true'];exact beq_eq_false_iff_ne.mpr (by lia)])
   rw[hT]at this
   exact this)
  exact(DT.aC c).trans rfl
 have e3:((aF H 39).E (cf (bh 3)) ⟨fr,[b6 L,x1,x2,x3,x4]⟩).eval=some (.obj 8,V):=by
  rw[Q4]
  refine pM e1 e2 ?_
  show(DT.test (fits 1&&fits (iA L).length) (.leaf (U.obj 8,V)) .fail:DT (U×ES)).eval=_
  rw[bq (show(iA L).length<=1000000 by have:=zP (L:=L);lia)];rfl
 rw[ON]
 exact(DT.aC e3).trans ((DT.aC (congrArg DT.eval (Q3 H))).trans rfl)
theorem Rh(hL:L.length<=100){x0 V W X x8:AO}{lo tu ta cu:U}:((aF H 40).St (bh 4) ⟨[.frame (lf L lo tu ta cu)],[x0,x1,x2,x3,x4,V,W,X,x8]⟩).eval=some (FL.next,⟨[.frame (w7 L lo tu ta cu (fP L))],[x0,x1,x2,x3,x4,V,W,X,x8, .list ((L.take 6).map U.int), .list (((L.take 6).map g2).map U.int)]⟩):=by
 have hf:=vg (L:=L) hL
 let fr:List AO:=[.frame (lf L lo tu ta cu)]
 let z1:ES:=⟨fr,[x0,x1,x2,x3,x4,V,W,X,x8, .list ((L.take 6).map U.int), .list (((L.take 6).map g2).map U.int)]⟩
 have e1:((aF H 37).E sL ⟨fr,[x0,x1,x2,x3,x4,V,W,X,x8]⟩).eval=some (.int ((L.take 6).map g2).sum,z1):=by
  show((aF H 37).E sL ⟨[.frame (lf L lo tu ta cu)],[x0,x1,x2,x3,x4,V,W,X,x8]⟩).eval=_
  rw[Q9,hf,rm,gu]
  have c:=zO (asg:=gY H 35 jK) (t:=kr H 35 jK) (e:=kt H 35 jK) (base:=[x0,x1,x2,x3,x4,V,W,X,x8, .list ((L.take 6).map U.int)]) (fs:=fr) (s:=9) (xs:=L.take 6) (g:=λn=> .int (g2 n)) rfl (vh hL) (λi os=>S6 H 34 i _ os) (λi a os=>S7 H 34 i a _ os) (λz=>UM H 35 z) (λi os=>by rw[UN H 30 i];rfl)
  have em:((L.take 6).map λn=>U.int (g2 n))=((L.take 6).map g2).map U.int:=by rw[List.map_map];rfl
  rw[em]at c
  refine(DT.aC ((DT.aC ((DT.aC c).trans (c:=some (.obj 10,z1)) rfl)).trans (c:=some ([.obj 10],z1)) rfl)).trans ?_
  exact BF rfl
 have e2:((aF H 39).E (cf (bh 4)) ⟨fr,[x0,x1,x2,x3,x4,V,W,X,x8]⟩).eval=some (.int (fP L),z1):=by
  rw[Q8]
  exact(DT.aC ((DT.aC e1).trans (c:=some (.int (((L.take 6).map g2).sum.fmod 30),z1)) rfl)).trans rfl
 rw[OO]
 exact(DT.aC e2).trans ((DT.aC (congrArg DT.eval (Q7 H))).trans rfl)
end
theorem yC{c a:Nat}:∀l:List Nat,(a=c->b5 c (l++[a])=b5 c l++[[]])/\(a≠c->∃m x,b5 c l=m++[x]/\b5 c (l++[a])=m++[x++[a]])
 |[]=>by
  refine⟨λh=> ?_,λh=>⟨[],[],rfl, ?_⟩⟩
  ·subst h;show b5 a [a]=_;unfold b5;rw[if_pos rfl];rfl
  ·show b5 c [a]=_;unfold b5;rw[if_neg h];rfl
 |b::l=>by
  obtain⟨U,i2⟩:=yC (c:=c) (a:=a) l
  obtain⟨h0,t0,e0⟩:=oA c l
  have un:∀w,b5 c (b::w)=if b=c then[]::b5 c w else(match b5 c w with|[]=>[[b]]|h::t=>(b::h)::t):=λw=>rfl
  refine⟨λh=> ?_,λh=> ?_⟩
  ·rw[List.cons_append,un,un,U h,e0]
   by_cases hb:b=c
   ·rw[if_pos hb,if_pos hb];rfl
   ·rw[if_neg hb,if_neg hb];rfl
  ·obtain⟨m,x,e1,e2⟩:=i2 h
   rw[List.cons_append,un,un,e1,e2]
   by_cases hb:b=c
   ·rw[if_pos hb,if_pos hb];exact⟨[]::m,x,rfl,rfl⟩
   ·rw[if_neg hb,if_neg hb]
    cases m with
    |nil=>exact⟨[],b::x,rfl,rfl⟩
    |cons y m=>exact⟨(b::y)::m,x,rfl,rfl⟩
theorem Km(l:List Nat):(b5 10 l).length=(lc l).1+1/\∃m x,b5 10 l=m++[x]/\x.length=(lc l).2:=by
 induction l using snoc_ind with
 |nil=>exact⟨rfl,[],[],rfl,rfl⟩
 |snoc l a ih=>
  obtain⟨U,m,x,i2,W⟩:=ih
  obtain⟨s1,s2⟩:=yC (c:=10) (a:=a) l
  rw[oP]
  by_cases ha:a=10
  ·rw[if_pos ha,s1 ha]
   exact⟨by rw[List.length_append,U];rfl,_,[],rfl,rfl⟩
  ·obtain⟨V,x',e1,e2⟩:=s2 ha
   rw[if_neg ha,e2]
   have:V=m/\x'=x:=by
    rw[i2]at e1
    have:=List.append_inj' e1 rfl
    exact⟨this.1.symm,by injection this.2 with q;exact q.symm⟩
   obtain⟨rfl,rfl⟩:=this
   refine⟨?_,V,x'++[a],rfl,by rw[List.length_append,W];rfl⟩
   rw[i2]at U
   rw[<-U];simp
noncomputable def ia(L:List Int)(c:Nat):List U:=(Txt.split (i5 L c) "\n").map U.str
theorem Kn{L:List Int}{c:Nat}:(ia L c).length=(lc ((a_ L).take c)).1+1/\∃x:List Nat,(ia L c).getLast?=some (.str (ag x))/\x.length=(lc ((a_ L).take c)).2:=by
 have h0:("\n":Str)=⟨#[10]⟩:=by kernel_rfl
 obtain⟨s1,m,x,s2,s3⟩:=Km ((a_ L).take c)
 unfold ia
 rw[h0,split_list,show cps (i5 L c)=(a_ L).take c from rfl]
 refine⟨by rw[List.length_map,List.length_map,s1],x, ?_,s3⟩
 rw[s2];simp
theorem Ri(l:List Nat):(lc l).1<=l.length/\(lc l).2<=l.length:=by
 induction l using snoc_ind with
 |nil=>exact⟨Nat.le_refl _,Nat.le_refl _⟩
 |snoc l a ih=>
  rw[oP,List.length_append]
  split
  ·exact⟨by show(lc l).1+1<=l.length+1;lia,Nat.zero_le _⟩
  ·exact⟨by show(lc l).1<=l.length+1;lia,by show(lc l).2+1<=l.length+1;lia⟩
theorem Rj{H:Addr->List U->EM U}{z:ES}{l:Nat}{xs:List U}(h:z.os[l]?=some (.list xs))(hf:fits xs.length=true):(cO S1 H (.bi .len) [.obj l] z).eval=some (.int (xs.length:Nat),z):=by
 show(gL l (λxs=>aE (fits xs.length) (ak (U.int (xs.length:Nat))) ae) z).eval=_
 rw[iw h]
 show(DT.test (fits xs.length) _ _).eval=_
 rw[hf];rfl
theorem Rk{H:Addr->List U->EM U}{z:ES}{x:Str}(hf:fits x.length=true):(cO S1 H (.bi .len) [.str x] z).eval=some (.int (x.length:Nat),z):=by
 show(DT.test (fits x.length) (.leaf (U.int (x.length:Nat),z)) .fail:DT (U×ES)).eval=_
 rw[hf];rfl
theorem Dk{α:Type}{m1 m2:EM U}{g:List U->EM α}{z z1 W:ES}{v w:U}{more:List U}{r:Option (α×ES)}(V:(m1 z).eval=some (v,z1))(h2:(m2 z1).eval=some (w,W))(h3:(g (v::w::more) W).eval=r):((bd (bd m1 λv=>bd (bd m2 λw=>ak (w::more)) λvs=>ak (v::vs)) g) z).eval=r:=
 (DT.aC (a:=(v::w::more,W)) ((DT.aC V).trans ((DT.aC (a:=(w::more,W)) (DT.aC h2)).trans rfl))).trans h3
theorem OT{d:PyData}{w:List U}{z:ES}(V:cS z.os 12 (.tup w)=some d)(hs:PySem.SeqAt.shaped d=true):(ft .NotEq (.dat d) (.tup w) z).eval=some (false,z):=by
 show(bl (cS z.os 12 (.tup w)) (λe=>aE (PySem.SeqAt.shaped d&&PySem.SeqAt.shaped e) (ak (!PyData.eqv d e)) ae) z).eval=_
 rw[V]
 show(DT.test (PySem.SeqAt.shaped d&&PySem.SeqAt.shaped d) (.leaf (!PyData.eqv d d,z)) .fail).eval=_
 rw[hs,eqv_refl _ (canLay_of_shaped hs)];rfl
section
variable(H:Addr->List U->EM U){L:List Int}
noncomputable def lg(L:List Int)(m:List (Str×U)):List (Str×U):=d4 L (el L) (gH L) (gJ L) (.obj 8) (fP L) m
theorem Ko{c l:Nat}{os:List AO}(K:c<=(a_ L).length)(hl:(b6 L::os)[l]?=some (.list (ia L c)))
 (V:∀z,(H 820 (aR L c) z).eval=some (.dat (fA L c),z))(h2:∀z,(H 813 (aD L c) z).eval=some (.dat (nr L c),z))(hs:PySem.SeqAt.shaped (fA L c)=true):
 ((aF H 39).St fC ⟨[.frame (lg L (dP (c:Int) (some l)))],b6 L::os⟩).eval=some (FL.next,⟨[.frame (lg L (dP (c:Int) (some l)))],b6 L::os⟩):=by
 have tl:=text_len (L:=L)
 have hT:(a7 L).length=(a_ L).length:=de
 have U:aV (a7 L) 0 (dZ (a7 L).length (c:Int))=i5 L c:=by
  have e:dZ (a7 L).length (c:Int)=c:=by
   unfold dZ
   rw[if_neg (by lia),hT]
   lia
  rw[e];rfl
 obtain⟨n1,x,W,X⟩:=Kn (L:=L) (c:=c)
 have Y:=Ri ((a_ L).take c)
 rw[List.length_take]at Y
 have fl:fits (ia L c).length=true:=bq (by lia)
 let z:ES:=⟨[.frame (lg L (dP (c:Int) (some l)))],b6 L::os⟩
 have e1:((aF H 37).E (nM (dp fC)) z).eval=some (.dat (fA L c),z):=by
  show((aF H 37).E (nM (dp fC)) ⟨[.frame (d4 L (el L) (gH L) (gJ L) (.obj 8) (fP L) (dP (c:Int) (some l)))], .cell (some (.str (a7 L)))::os⟩).eval=_
  rw[Tb,bq (show(a7 L).length<=1000000 by lia),U,gu]
  exact V _
 have e2:((aF H 35).E sP z).eval=some (.int ((lc ((a_ L).take c)).2:Nat),z):=by
  show((aF H 35).E sP ⟨[.frame (d4 L (el L) (gH L) (gJ L) (.obj 8) (fP L) (dP (c:Int) (some l)))],b6 L::os⟩).eval=_
  rw[Rc]
  refine(DT.aC (a:=([.str (ag x)],z)) (DT.aC (item_last (z:=z) hl W fl))).trans ?_
  have:=Rk (H:=H) (z:=z) (x:=ag x) (bq (by rw[de];lia))
  rw[de,X]at this
  exact this
 have e3:((aF H 36).E pP z).eval=some (.tup [.int (((lc ((a_ L).take c)).1+1:Nat):Int), .int ((lc ((a_ L).take c)).2:Nat)],z):=by
  show((aF H 36).E pP ⟨[.frame (d4 L (el L) (gH L) (gJ L) (.obj 8) (fP L) (dP (c:Int) (some l)))],b6 L::os⟩).eval=_
  rw[Td]
  have a:=Rj (H:=H) (z:=z) hl fl
  rw[n1]at a
  exact Dk (more:=[]) a e2 rfl
 have Z:((aF H 37).E (nu (dp fC)) z).eval=some (.tup [.dat (nr L c), .tup [.int (((lc ((a_ L).take c)).1+1:Nat):Int), .int ((lc ((a_ L).take c)).2:Nat)], .none],z):=by
  show((aF H 37).E (nu (dp fC)) ⟨[.frame (d4 L (el L) (gH L) (gJ L) (.obj 8) (fP L) (dP (c:Int) (some l)))], .cell (some (.str (a7 L)))::os⟩).eval=_
  rw[Tc]
  exact Dk (more:=[.none]) (h2 _) e3 rfl
 have J:((bd ((aF H 37).E (nM (dp fC))) λv=>bd ((aF H 37).E (nu (dp fC))) λu=>ft .NotEq v u) z).eval=some (false,z):=pM e1 Z (OT rfl hs)
 rw[Ta]
 exact(DT.aC J).trans rfl
end
theorem Mz{n:Nat}{l:List U}(h:∀x∈l,∃c:Nat,c<=n/\x= .int (c:Nat)):∃cs:List Nat,l=cs.map (λc=>U.int (c:Nat))/\∀c∈cs,c<=n:=by
 induction l with
 |nil=>exact⟨[],rfl,λc h=>by cases h⟩
 |cons x l ih=>
  obtain⟨c,V,rfl⟩:=h x (.head _)
  obtain⟨cs,h2,h3⟩:=ih λy hy=>h y (.tail _ hy)
  exact⟨c::cs,by rw[h2];rfl,λy hy=>(List.mem_cons.mp hy).elim (λe=>e▸V) (h3 y)⟩
theorem Kp{L:List Int}:∃cs:List Nat,kP L=cs.map (λc=>U.int (c:Nat))/\(∀c∈cs,c<=(a_ L).length)/\cs.length<=4:=by
 obtain⟨cs,V,h2⟩:=Mz (n:=(a_ L).length) (l:=kP L) λx hx=>by
  obtain⟨i,hi⟩:=List.mem_iff_getElem?.mp hx
  exact Kl hi
 refine⟨cs,V,h2, ?_⟩
 have:=congrArg List.length V
 rw[List.length_map]at this
 have h3:=zP (L:=L)
 unfold kP at this
 rw[List.length_cons]at this
 lia
section
variable(H:Addr->List U->EM U){L:List Int}
noncomputable def tL(cs:List Nat)(n:Nat):Nat->Option (Int×Nat)
 |0=>none
 |i+1=>some ((cs.getD i 0:Nat),n+i+1)
noncomputable def stN(L:List Int)(cs:List Nat)(os:List AO)(i:Nat):ES:=⟨[.frame (lg L (sO (tL cs os.length i)))],b6 L::(os++(cs.take i).map λc=> .list (ia L c))⟩
theorem Kq{cs:List Nat}{os:List AO}(Y:os[7]?=some (.list (cs.map λc=>U.int (c:Nat))))(K:∀c∈cs,c<=(a_ L).length)(hn:cs.length<=4)
 (V:∀c,c<=(a_ L).length->∀z,(H 820 (aR L c) z).eval=some (.dat (fA L c),z))(h2:∀c,c<=(a_ L).length->∀z,(H 813 (aD L c) z).eval=some (.dat (nr L c),z))(hs:∀c,c<=(a_ L).length->PySem.SeqAt.shaped (fA L c)=true):
 ((aF H 40).St ku (stN L cs os 0)).eval=some (FL.next,stN L cs os cs.length):=by
 have tl:=text_len (L:=L)
 have hT:(a7 L).length=(a_ L).length:=de
 have Z:∀i,(stN L cs os i).os[8]?=some (.list (cs.map λc=>U.int (c:Nat))):=λi=>by
  show(os++_)[7]?=_
  rw[List.getElem?_append_left (List.getElem?_eq_some_iff.mp Y).1];exact Y
 have run:=uH (asg:=sM H) (b:=sN H) (l:=8) (qs:=cs.map λc=>U.int (c:Nat)) (stN L cs os) Z (λi x hx=>by
  rw[List.getElem?_map]at hx
  cases ho:cs[i]?with
  |none=>rw[ho]at hx;cases hx
  |some c=>
   rw[ho]at hx
   cases hx
   have I:=(List.getElem?_eq_some_iff.mp ho).1
   have X:=K c (List.mem_of_getElem? ho)
   have N:cs.getD i 0=c:=by simp[List.getD,ho]
   let W:List AO:=os++(cs.take i).map λc=> .list (ia L c)
   have ol:W.length=os.length+i:=by
    show(os++_).length=_
    rw[List.length_append,List.length_map,List.length_take];lia
   have J:aV (a7 L) 0 (dZ (a7 L).length (c:Int))=i5 L c:=by
    have e:dZ (a7 L).length (c:Int)=c:=by
     unfold dZ
     rw[if_neg (by lia),hT]
     lia
    rw[e];rfl
   have b0:=DT.aQ (Rb H (L:=L) (lo:=el L) (tu:=gH L) (ta:=gJ L) (cu:= .obj 8) (sz:=fP L) (c:=(c:Int)) (T:=a7 L) (os:=W) (o:=(tL cs os.length i).map (·.2))) (by
    have hx:(i5 L c).length<=1000000:=by unfold i5;rw[de,List.length_take];lia
    rw[J,bq (show(a7 L).length<=1000000 by lia),bq hx];rfl)
   rw[J,ol]at b0
   refine⟨⟨[.frame (lg L (dP (c:Int) ((tL cs os.length i).map (·.2))))],b6 L::W⟩,congrArg DT.eval (Ra H), ?_⟩
   rw[S_]
   have G:=Ko H (L:=L) (c:=c) (l:=os.length+i+1) (os:=W++[.list (ia L c)]) X (by
    show(W++[AO.list (ia L c)])[os.length+i]?=_
    rw[<-ol];exact wd) (V c X) (h2 c X) (hs c X)
   have e:stN L cs os (i+1)=⟨[.frame (lg L (dP (c:Int) (some (os.length+i+1))))],b6 L::(W++[.list (ia L c)])⟩:=by
    show(⟨[.frame (lg L (sO (some ((cs.getD i 0:Nat),os.length+i+1))))],b6 L::(os++(cs.take (i+1)).map λc=> .list (ia L c))⟩:ES)=_
    rw[N,List.take_add_one,ho,List.map_append,<-List.append_assoc];rfl
   rw[e]
   exact(bF b0).trans ((bF G).trans rfl)) 3000 0 (by rw[List.length_map];lia) (Nat.zero_le _)
 rw[List.length_map]at run
 have e0:(aF H 40).St ku (stN L cs os 0)=gL 8 (λ_=>cQ (sM H) (sN H) (.live 8) 3000 0) (stN L cs os 0):=Q_ H
 rw[e0,iw (Z 0)]
 exact run
theorem Kr(hL:L.length<=100)(X:∀fs os,H 773 [] ⟨fs,os⟩= .test true (.leaf (.obj os.length,⟨fs,os++[.list io]⟩)) .fail)
 (Y:∀z,(H 787 [.str (a7 L)] z).eval=some (.str (aX (a7 L)),z))(Z:∀z,(H 808 [.str (aX (a7 L))] z).eval=some (.dat (kL (aX (a7 L))),z))
 (V:∀c,c<=(a_ L).length->∀z,(H 820 (aR L c) z).eval=some (.dat (fA L c),z))(h2:∀c,c<=(a_ L).length->∀z,(H 813 (aD L c) z).eval=some (.dat (nr L c),z))(hs:∀c,c<=(a_ L).length->PySem.SeqAt.shaped (fA L c)=true):
 ∃os,(aL S1 H 3000 40 825 [cK L] ⟨[],[]⟩).eval=some (.bool true,⟨[],os⟩):=by
 obtain⟨cs,J,K,hn⟩:=Kp (L:=L)
 let os:List AO:=[.list io, .list ((L.take 1).map U.int), .list ((L.take 6).map U.int), .list (l5 L), .list [.int ((a_ L).length:Nat)], .list ((L.take 3).map U.int), .list (iA L), .list (kP L), .list ((L.take 6).map U.int), .list (((L.take 6).map g2).map U.int)]
 have W:=Kq H (L:=L) (cs:=cs) (os:=os) (by show some (AO.list (kP L))=_;rw[J]) K hn V h2 hs
 have e0:stN L cs os 0=⟨[.frame (w7 L (el L) (gH L) (gJ L) (.obj 8) (fP L))],b6 L::os⟩:=by
  show(⟨_,b6 L::(os++[])⟩:ES)=_
  rw[List.append_nil];rfl
 rw[e0]at W
 rw[Th]
 refine⟨_,jQ (fl:= .ret (.bool true)) (es:=lg L (sO (tL cs os.length cs.length))) (os:=b6 L::(os++(cs.take cs.length).map λc=> .list (ia L c))) ?_ (.inl rfl)⟩
 rw[Tf]
 exact(bF (Rd H hL X)).trans ((bF (Re H Y)).trans ((bF (Rf H Z)).trans ((bF (Rg H hL)).trans ((bF (Rh H hL)).trans ((bF W).trans (mY (congrArg DT.eval (Te H _))))))))
end
structure Sh(n:Nat)(d:PyData):Prop where
 lay:d.canLay0=true
 dep:d.depth<=n
noncomputable def Lo(p:List Nat):Prop:=∀c∈p,c<0x110000
theorem Sh.up{n m:Nat}{d:PyData}(h:Sh n d)(hm:n<=m):Sh m d:=⟨h.lay,Nat.le_trans h.dep hm⟩
theorem vH{n:Nat}:∀{ds:List PyData},(∀d∈ds,Sh n d)->PyData.canLayAll0 ds=true/\PyData.depthAll ds<=n
 |[],_=>⟨by simp only[PyData.canLayAll0],by simp only[PyData.depthAll];lia⟩
 |d::ds,h=>by
  have V:=h d (List.mem_cons_self ..)
  have h2:=vH (ds:=ds) λx hx=>h x (List.mem_cons_of_mem _ hx)
  simp only[PyData.canLayAll0,PyData.depthAll,V.lay,h2.1,Bool.and_self,true_and]
  exact Nat.max_le.mpr ⟨V.dep,h2.2⟩
theorem oT{n:Nat}{ds:List PyData}(h:∀d∈ds,Sh n d):Sh (n+1) (.tuple ds):=by
 have:=vH h
 exact⟨by simp only[PyData.canLay0];exact this.1,by simp only[PyData.depth];lia⟩
theorem rL{n:Nat}{ds:List PyData}(h:∀d∈ds,Sh n d):Sh (n+1) (.list ds):=by
 have:=vH h
 exact⟨by simp only[PyData.canLay0];exact this.1,by simp only[PyData.depth];lia⟩
theorem lQ{p:List Nat}(h:Lo p):Sh 0 (.str (ag p)):=⟨by
 simp only[PyData.canLay0]
 unfold PyData.strOk ag
 rw[<-Array.all_toList,List.all_eq_true]
 exactλc U=>decide_eq_true (h c U),by simp only[PyData.depth];lia⟩
theorem BG{i:Int}:Sh 0 (.int i):=⟨by simp only[PyData.canLay0],by simp only[PyData.depth];lia⟩
theorem MA{b:Bool}:Sh 0 (.bool b):=⟨by simp only[PyData.canLay0],by simp only[PyData.depth];lia⟩
theorem MB:Sh 0 .none:=⟨by simp only[PyData.canLay0],by simp only[PyData.depth];lia⟩
theorem OU(e:Nat):Sh 0 (.str (eZ e)):=by
 have:∀x:Str,PyData.strOk x=true->Sh 0 (.str x):=λx h=>⟨by simp only[PyData.canLay0];exact h,by simp only[PyData.depth];lia⟩
 refine this _ ?_
 match e with
 |0=>decide+kernel
 |1=>decide+kernel
 |2=>decide+kernel
 |3=>decide+kernel
 |4=>decide+kernel
 |5=>decide+kernel
 |n+6=>show PyData.strOk (eZ 6)=true;decide+kernel
noncomputable def yd:RI->Prop
 | .text q=>Lo q
 | .err _=>True
 | .fin none _=>True
 | .fin (some b) _=>Lo b
noncomputable def fg(row:List RI):Prop:=∀a∈row,yd a
theorem m6{a b:PyData}{n:Nat}(ha:Sh n a)(hb:Sh n b):∀d∈[a,b],Sh n d:=λd hd=>by
 rcases List.mem_cons.mp hd with rfl|hd
 ·exact ha
 ·rcases List.mem_singleton.mp hd with rfl
  exact hb
theorem MC{b:Option (List Nat)}(h:∀q,b=some q->Lo q):Sh 2 (.list (Da b)):=by
 cases b with
 |none=>exact rL (n:=1) λd hd=>by cases hd
 |some q=>
  refine rL (n:=1) λd hd=> ?_
  rcases List.mem_singleton.mp hd with rfl
  exact rL (m6 (lQ (h q rfl)) (lQ (p:=cps "") (by unfold Lo;decide+kernel)))
theorem MD{a:RI}(h:yd a):Sh 3 (nL a):=by
 cases a with
 |text q=>exact(oT (m6 (lQ (p:=cps "text") (by unfold Lo;decide+kernel)) (lQ h))).up (by decide)
 |err e=>exact(oT (m6 (lQ (p:=cps "error") (by unfold Lo;decide+kernel)) (OU e))).up (by decide)
 |fin b sc=>
  refine oT (n:=2) λd hd=> ?_
  rcases List.mem_cons.mp hd with rfl|hd
  ·exact(lQ (p:=cps "end") (by unfold Lo;decide+kernel)).up (by decide)
  ·rcases List.mem_cons.mp hd with rfl|hd
   ·exact(lQ (p:=cps "script") (by unfold Lo;decide+kernel)).up (by decide)
   ·refine m6 (MC λq e=> ?_) (MA.up (by decide)) d hd
    subst e;exact h
theorem BH{row:List RI}{p:List Nat}(h:fg row)(hp:Lo p):fg (aJ row p):=by
 have e:aJ row p=row\/(∃q,row.getLast?=some (.text q)/\aJ row p=row.dropLast++[.text (q++p)])\/aJ row p=row++[.text p]:=by
  unfold aJ
  cases p with
  |nil=>exact .inl rfl
  |cons c p=>
   cases hl:row.getLast? with
   |none=>exact .inr (.inr rfl)
   |some a=>
    cases a with
    |text q=>exact .inr (.inl ⟨q,rfl,rfl⟩)
    |err e=>exact .inr (.inr rfl)
    |fin b sc=>exact .inr (.inr rfl)
 rcases e with e|⟨V,hl,e⟩|e<;>rw[e]
 ·exact h
 ·intro a ha
  rcases List.mem_append.mp ha with ha|ha
  ·exact h a (List.dropLast_subset _ ha)
  ·rcases List.mem_singleton.mp ha with rfl
   intro c U
   rcases List.mem_append.mp U with U|U
   ·exact h _ (List.mem_of_getLast? hl) c U
   ·exact hp c U
 ·intro a ha
  rcases List.mem_append.mp ha with ha|ha
  ·exact h a ha
  ·rcases List.mem_singleton.mp ha with rfl;exact hp
theorem m7{a b:List RI}(V:fg a)(h2:fg b):fg (a++b):=λx hx=>(List.mem_append.mp hx).elim (V x) (h2 x)
theorem oU{e:Nat}:fg [.err e]:=λa ha=>by rcases List.mem_singleton.mp ha with rfl;trivial
theorem vi{row:List RI}(hr:fg row)(l:List Nat)(h:Lo l):fg (feed row l):=by
 induction l using snoc_ind with
 |nil=>exact hr
 |snoc l c ih=>
  have ih:=ih λx hx=>h x (List.mem_append_left _ hx)
  rw[uB]
  show fg (ix (feed row l) c)
  unfold ix
  split
  ·exact BH (m7 ih oU) (by unfold Lo;decide)
  ·refine BH ih λx hx=> ?_
   rcases List.mem_singleton.mp hx with rfl
   exact h _ (List.mem_append_right _ (List.mem_singleton.mpr rfl))
theorem ME{s:Str}:fg (gz s):=by
 have one:∀a:RI,yd a->fg [a]:=λa h x hx=>by rcases List.mem_singleton.mp hx with rfl;exact h
 unfold gz
 split
 ·exact m7 (a:=[.err 2]) oU (one _ (by show Lo [98];unfold Lo;decide))
 ·split
  ·exact m7 (a:=[.err 3]) oU (one _ trivial)
  ·exact one _ trivial
theorem vI{x:Str}(h:Lo (cps x))(a b:Int):Lo (cps (aS x a b)):=λc U=>by
 have U:c∈((cps x).take (dZ x.length b)).drop (dZ x.length a):=U
 exact h c (List.mem_of_mem_take (List.mem_of_mem_drop U))
theorem BJ{C:DC}(h:Lo (cps C.T)):∀{ta:List (Int×Int)} {p:Int} {R:List RI},fg R->fg (cr C ta p R).2.2
 |[],p,R,U=>U
 |t::ta,p,R,U=>by
  unfold cr
  split
  ·exact U
  ·split
   ·exact m7 (vi U _ (vI h _ _)) oU
   ·exact BJ h (m7 (vi U _ (vI h _ _)) ME)
theorem MF{C:DC}(h:Lo (cps C.T)){tu ta:List (Int×Int)}:fg (pN C tu ta):=by
 have V:fg (cr C ta 0 []).2.2:=BJ h λa ha=>by cases ha
 unfold pN
 cases (cr C ta 0 []).1 with
 |true=>exact V
 |false=>
  refine m7 (vi V _ (vI h _ _)) ?_
  unfold sG
  cases decide (kO C.c tu=2)with
  |true=>exact oU
  |false=>exactλa ha=>by cases ha
theorem OV{L:List Int}{c:Nat}:PySem.SeqAt.shaped (fA L c)=true:=by
 have hT:Lo (cps (a7 L)):=λx hx=>by
  have:∀a∈cH,a<0x110000:=by decide+kernel
  exact this x (vf x hx).1
 have hr:fg (nO (a7 L) c):=MF (C:=lA (a7 L) c) hT
 have h:Sh 5 (fA L c):=by
  refine oT (n:=4) λd hd=> ?_
  rcases List.mem_cons.mp hd with rfl|hd
  ·refine rL λd hd=> ?_
   obtain⟨a,ha,rfl⟩:=List.mem_map.mp hd
   exact MD (hr a ha)
  ·refine m6 ?_ (MB.up (by decide)) d hd
   exact(oT (m6 BG BG)).up (by decide)
 unfold PySem.SeqAt.shaped
 rw[h.lay,Bool.true_and]
 exact decide_eq_true (Nat.le_trans h.dep (by decide))
noncomputable def l7(n:Nat)(a:Nat->List U)(d:Nat->PyData)(args:List U):DT PyData:=
 open Classical in if h:∃c,c<=n/\args=a c then .leaf (d h.choose)else .fail
theorem HG{n:Nat}{a:Nat->List U}{d:Nat->PyData}{args:List U}{x:PyData}(h:(l7 n a d args).eval=some x):∃c,c<=n/\args=a c/\x=d c:=by
 unfold l7 at h
 split at h
 ·rename_i q
  cases h
  exact⟨_,q.choose_spec.1,q.choose_spec.2,rfl⟩
 ·cases h
theorem A7{n:Nat}{a:Nat->List U}{d:Nat->PyData}(hi:∀i j,i<=n->j<=n->a i=a j->i=j){c:Nat}(V:c<=n):l7 n a d (a c)= .leaf (d c):=by
 unfold l7
 have q:∃i,i<=n/\a c=a i:=⟨c,V,rfl⟩
 rw[dif_pos q,hi _ _ q.choose_spec.1 V q.choose_spec.2.symm]
theorem OW(L:List Int)(i j:Nat)(hi:i<=(a_ L).length)(U:j<=(a_ L).length)(h:aR L i=aR L j):i=j:=by
 unfold aR at h
 injection h with h _;injection h with h
 have:=congrArg List.length (uG h)
 rw[List.length_take,List.length_take]at this
 lia
theorem OX(L:List Int)(i j:Nat)(h:aD L i=aD L j):i=j:=by
 unfold aD at h
 injection h with _ h;injection h with _ h;injection h with _ h;injection h with _ h;injection h with h _;injection h with h
 exact Int.ofNat.inj h
theorem Ks(L:List Int)(c:Nat):(aR L c).all fR=true:=by unfold aR;rfl
theorem Kt(L:List Int)(c:Nat):(aD L c).all fR=true:=by unfold aD;rfl
noncomputable def HT:Addr->List U->EM U:=jk 808 Bz (pick 808 (aL S1 ge 3000 40) jD)
noncomputable def HU(L:List Int)(m:Nat):Addr->List U->EM U:=jk 813 (l7 (a_ L).length (aD L) (nr L)) (pick 813 (aL S1 fG 3000 40) HT)
noncomputable def HL(L:List Int)(m:Nat):Addr->List U->EM U:=jk 820 (l7 (a_ L).length (aR L) (fA L)) (pick 820 (lS S1 dk jD 3000 40 (λ_=>eJ) m) (HU L m))
section
variable{C:Cx}{L:List Int}{m:Nat}
theorem AC{n g k:Nat}{a:Nat->List U}{d:Nat->PyData}{dN eY:Addr->List U->EM U}(V:ba C n dN)(h2:ba C n eY)(hp:∀c,(a c).all fR=true)(h:∀c:Nat,c<=k->sF (dN g) (a c) (PD (d c))):ba C n (jk g (l7 k a d) (pick g dN eY)):=
 uA (oJ V h2) λargs x e=>by
  obtain⟨c,W,rfl,rfl⟩:=HG e
  refine⟨hp c, ?_⟩
  rw[qP]
  exact(h c W).h
theorem Rl(B:Base C S1):ba C 13 HT:=uA (oJ ((ja B (Bq B)).up (by decide)) ((vy B).up (by decide))) λargs x e=>by
 rw[qP]
 exact Hx args x e
theorem Rn(B:Base C S1):ba C 13 (HU L m):=AC ((ja B (Br B)).up (by decide)) (Rl B) (Kt L) λc U=>QS U
theorem Ro(B:Base C S1)(U:Base C.inner S1)(W:C.K=KL C.w.params)(X:∀gens st,GenState.bare st=true->C.gk (gens.push st)=C.gk gens)(V:∀c:Nat,c<=(a_ L).length->kY m (aR L c) (PD (fA L c))):ba C 13 (HL L m):=
 AC (Fx B U (vy B) (vy U) X (Ng W) Ii) (Rn B) (Ks L) V
end
theorem AD{g f:Addr}{sum:List U->DT PyData}{H:Addr->List U->EM U}{args:List U}(h:Nat.beq f g=false):jk g sum H f args=H f args:=by
 unfold jk bo
 rw[h]
theorem uP{g:Addr}{sum:List U->DT PyData}{H:Addr->List U->EM U}{args:List U}{z:ES}:jk g sum H g args z=(sum args).bind λd=> .leaf (bZ d,z):=by
 unfold jk bo
 rw[Nat.beq_refl]
theorem A8{g f:Addr}{H1 H2:Addr->List U->EM U}{args:List U}(h:Nat.beq f g=false):pick g H1 H2 f args=H2 f args:=by
 unfold pick bo
 rw[h]
section
variable{L:List Int}{m:Nat}
theorem Cv{f:Addr}{args:List U}(h:Nat.beq f 820=false):HL L m f args=HU L m f args:=(AD h).trans (A8 h)
theorem we{f:Addr}{args:List U}(h:Nat.beq f 820=false)(h2:Nat.beq f 813=false):HL L m f args=HT f args:=(Cv h).trans ((AD h2).trans (A8 h2))
theorem OY{x:Str}{z:ES}:HT 787 [.str x] z= .test (eU x) (.leaf (.str (aX x),z)) .fail:=by kernel_rfl
theorem OZ{fs os:List AO}:HT 773 [] ⟨fs,os⟩= .test true (.leaf (.obj os.length,⟨fs,os++[.list io]⟩)) .fail:=by kernel_rfl
theorem O0{x:Str}(h:x.length<2990)(z:ES):(HT 808 [.str x] z).eval=some (.dat (kL x),z):=by
 unfold HT
 rw[uP]
 show(DT.bind (.test (Nat.blt x.length 2990) (.leaf (kL x)) .fail) _).eval=_
 rw[Nat.blt_eq.mpr h];rfl
theorem O1(hL:L.length<=100):∃os,(aL S1 (HL L m) 3000 40 825 [cK L] ⟨[],[]⟩).eval=some (.bool true,⟨[],os⟩):=by
 have tl:=text_len (L:=L)
 have V:eU (a7 L)=true:=by
  unfold eU c7
  rw[Bool.and_eq_true,List.all_eq_true]
  refine⟨λx hx=> ?_,Nat.blt_eq.mpr (by show(ag (a_ L)).length<_;rw[de];lia)⟩
  have:=(vf x hx).1
  unfold ng
  exact List.any_eq_true.mpr ⟨x,this,Nat.beq_refl x⟩
 refine Kr (HL L m) hL (λfs os=>by rw[we rfl rfl];exact OZ) (λz=> ?_) (λz=> ?_) (λc U z=> ?_) (λc U z=> ?_) λc _=>OV
 ·rw[we rfl rfl,OY,V];rfl
 ·rw[we rfl rfl]
  refine O0 ?_ z
  rw[ve]
  show(a_ L).length<_
  lia
 ·unfold HL
  rw[uP,A7 (OW L) U];rfl
 ·rw[Cv rfl]
  unfold HU
  rw[uP,A7 (λi j _ _=>OX L i j) U];rfl
end
structure Ti(L:List Int)(m:Nat):Prop where
 ev:∃os,(aL S1 (HL L m) 3000 40 825 [cK L] ⟨[],[]⟩).eval=some (.bool true,⟨[],os⟩)
 run:∀c:Nat,c<=(a_ L).length->kY m (aR L c) (PD (fA L c))
theorem Rp(L:List Int)(hL:L.length<=100):∃m,Ti L m:=by
 obtain⟨m,h⟩:=both (L:=L)
 exact⟨m,O1 hL,h⟩
section
variable{R:WRecords}{cl:Str->Option Addr}{h:Heap}
theorem F_{xs:List WData}(e:WShape.hasItems R xs .int=true):∃L:List Int,xs=L.map WData.int:=by
 induction xs with
 |nil=>exact⟨[],rfl⟩
 |cons x xs ih=>
  have e:(WShape.has R x .int&&WShape.hasItems R xs .int)=true:=e
  obtain⟨e1,e2⟩:=Bool.and_eq_true_iff.mp e
  obtain⟨L,rfl⟩:=ih e2
  obtain⟨i,rfl⟩:=hasW_int e1
  exact⟨i::L,rfl⟩
theorem Ga{L:List Int}:∀{vs:List Value} {as:List Addr},ReadsAllW R cl h vs (L.map WData.int) as->∃bs,ReadsAll h vs (L.map PyData.int) bs:=by
 induction L with
 |nil=>intro vs as q;obtain⟨rfl,_⟩:=readsAllW_nil_inv q;exact⟨_, .nil⟩
 |cons i L ih=>
  intro vs as q
  obtain⟨v,vs,a,b,rfl,_,U,V⟩:=readsAllW_cons_inv q
  obtain⟨t,rfl,_⟩:=readsW_int_inv U
  obtain⟨bs,q⟩:=ih V
  exact⟨_, .cons (.int _ _) q⟩
theorem Ku{L:List Int}{vals:List Value}{as:List Addr}(r:ReadsAllW R cl h vals [.list (L.map WData.int)] as):∃v,vals=[v]/\VR h [] (cK L) v:=by
 obtain⟨v,vs,a,b,rfl,_,U,W⟩:=readsAllW_cons_inv r
 obtain⟨rfl,_⟩:=readsAllW_nil_inv W
 refine⟨v,rfl, ?_⟩
 cases U with
 |list V h2 h3 h4=>
  obtain⟨bs,q⟩:=Ga h4
  exact VR.dat (.list V h2 h3 q)
end
theorem Kv{args:List WData}(h:bS.row.toRowW.claim.pre args=true):∃L:List Int,args=[.list (L.map WData.int)]/\L.length<=63:=by
 obtain⟨V,h2⟩:=pre_splitW h
 have V:WShape.hasAll [] args [.list .int]=true:=V
 obtain⟨d,r,rfl,e1,e2⟩:=hasAllW_cons V
 cases hasAllW_nil e2
 obtain⟨xs,rfl,e3⟩:=hasW_list e1
 obtain⟨L,rfl⟩:=F_ e3
 refine⟨L,rfl, ?_⟩
 have h2:=(holds_andW (a:= .not (.lt (.lit (.int 63)) (.len (.arg 0)))) h2).1
 have h3:=condW_of h2 (w_not (w_lt w_lit (w_len_list (w_arg rfl))))
 have h3:=of_decide_eq_false ((Bool.not_eq_true' _).mp h3)
 rw[List.length_map]at h3
 lia
theorem HI{args:List WData}:bS.row.toRowW.claim.post args (.bool true) args=true:=by kernel_rfl
theorem O2{K:List (Addr×Obj)}{a:Addr}{o:Obj}(h:K.lookup a=some o):(a,o)∈K:=by
 induction K with
 |nil=>cases h
 |cons p K ih=>
  rw[List.lookup_cons]at h
  cases q:a==p.1 with
  |true=>
   rw[q]at h
   cases h
   rw[eq_of_beq q]
   exact .head _
  |false=>
   rw[q]at h
   exact .tail _ (ih h)
theorem O3(P:Params):(KL P).map (·.1)=fZ:=by kernel_rfl
theorem MG{w:World}{s:Shared}(h:pa fZ s=pb KL 826 w):Frag.In (KL w.params) s.heap:=λa o e=>by
 have V:fZ.map s.heap.get?=(KL w.params).map λp=>some p.2:=congrArg Prod.fst h
 rw[<-O3 w.params,List.map_map]at V
 exact fQ V _ (O2 e)
theorem O4(P:Params):j4 (KL P) "law"=some (.ref 825):=by kernel_rfl
theorem O5(P:Params):(((KL P).lookup mainGlobals).bind λo=>s6 o.data).isSome=true:=by kernel_rfl
theorem O6(P:Params):((KL P).lookup sysModules).isSome=true:=by kernel_rfl
theorem Kw:∀(d:Data) {es fb:Array DictEntry} {U:Nat},s6 d=some es->d= .dict fb U->es=fb:=λd es fb U h e=>Option.some.inj (h.symm.trans (congrArg s6 e))
theorem Rq{P:Params}{h:Heap}{mg:Str->Option Value}(K:Frag.In (KL P) h)(g:h.Ns mainGlobals mg):mg=j4 (KL P):=by
 obtain⟨es,V⟩:=Option.isSome_iff_exists.mp (O5 P)
 obtain⟨o',e,h2⟩:=cW V
 obtain⟨o,fb,U,ho,hd,_,hm⟩:=g
 cases (K _ _ e).symm.trans ho
 cases Kw _ h2 hd
 funext x
 rw[<-hm x]
 unfold j4
 rw[e]
 exact(congrArg (λq:Option (Array DictEntry)=>q.bind λes=>nsFind es x) h2).symm
theorem O7:ir.map (λp=>bootBuiltins p.1)=ir.map (λp=>some p.2.2):=by kernel_rfl
theorem MH:ir.all (λp=> !decide (p.1=("__name__":Str)))=true:=by kernel_rfl
noncomputable abbrev cx(w:World)(mb:Str->Option Value):Cx:=⟨pw,w,KL w.params,j4 (KL w.params),mb,Prop,AllBare⟩
theorem HJ(gens:Array GenState)(st:GenState)(h:GenState.bare st=true):AllBare (gens.push st)=AllBare gens:=
 propext ⟨λx y hy=>x y (Array.mem_push.mpr (.inl hy)),λx=>x.push h⟩
theorem law_call:WalkX qv jU (λ_ _=>True) (pa fZ) (pb KL 826) bS.row.toRowW j0 [] (λf vs=>PySem.call f vs):=by
 intro w P U mg mb G Y a o pm cd doc Q R ha hd y u hm N args vals as L H z I k t
 have D:=MG Y
 have K1:Frag.In (KL w.params) U.heap:=λa o e=>L.keeps _ _ (D a o e)
 have Z:=Rq K1 G.T.g
 have E:j0.name="law":=by kernel_rfl
 rw[Z,E,O4]at hm
 rw[<-Option.some.inj hm]
 obtain⟨xs,rfl,hlen⟩:=Kv H
 obtain⟨v,rfl,hv⟩:=Ku I
 have J:∀p∈ir,(cx w mb).mb p.1=some p.2.2:=λp hp=>by
  have V:=List.all_eq_true.mp MH p hp
  have h2:p.1≠("__name__":Str):=of_decide_eq_false ((Bool.not_eq_true' _).mp V)
  rw[show(cx w mb).mb p.1=mb p.1 from rfl,G.T.builtins p.1 h2]
  exact fQ O7 p hp
 have B:Base (cx w mb) S1:=BW rfl rfl J
 have F:Base (cx w mb).inner S1:=BW rfl rfl J
 obtain⟨m,X⟩:=Rp xs (by omega)
 have K:ba (cx w mb) 14 (aL S1 (HL xs m) 3000 40):=ja B (Ro B F rfl HJ X.run)
 have base:gq (cx w mb) U.heap:=⟨K1,(Z▸G.T.g:U.heap.Ns mainGlobals (j4 (KL w.params))),G.T.b,G.T.nolimit,by
  obtain⟨o,e⟩:=Option.isSome_iff_exists.mp (O6 w.params)
  exact⟨o,K1 _ _ e⟩⟩
 have M:SW (cx w mb) ⟨U.heap,[],[],[]⟩ ⟨[],[]⟩ U:=⟨base,⟨λ_ _ e=>e,rfl,rfl,λi o a e=>gQ e,λi o a e=>gQ e,
  λi j o o' a e=>gQ e,λp hp=>(nomatch hp),λp hp=>(nomatch hp),λp hp=>(nomatch hp),List.nodup_nil⟩⟩
 have ev:=X.ev
 generalize aL S1 (HL xs m) 3000 40=c at K ev
 obtain⟨os,O⟩:=ev
 have key:=K callerA rfl (by decide) (by decide) 825 [cK xs] [v] _ _ U M (.cons hv .nil) (λr=>r.1= .bool true) (DT.du O rfl)
 refine enter_call (codeAny_mono key λr s' q=> ?_)
 cases r with
 |error e=>exact q.elim
 |ok fl=>
  cases fl with
  |ret d=>
   obtain⟨b,z',F',af,hb,C,A,S,W,ho⟩:=q
   have hb:b= .bool true:=hb
   subst hb
   cases S
   refine⟨.inl ⟨_, .bool true,[],rfl,λ_=>rfl, .bool _,HI,λ_=>⟨List.nodup_nil,λa ha=>by cases ha⟩⟩, .of_keep (λb o e=>A.rel.keep _ _ (C.keep _ _ e)),ho, ?_⟩
   have W:AllBare s'.gens=AllBare U.gens:=W
   rw[W,N]
   exact .empty
  |_=>exact q.elim
end Mine
theorem PySem.Challenge.cw_te0041_02_holds : PySem.Challenge.rw_te0041_02.Holds :=
  Mine.head Mine.law_call
