import PyProof.Rows.All
import PyProof.ExcFactsAll.ValueError
import PyProof.StationsW
import PyProof.ExcStrAll.ValueError
import PyProof.ExcStrCall
import PyProof.RulesAs
import PyProof.Rows.Catch
import Wide.FinOn
import OpenK.AllK
import Wide.All
import Lean
import PySem.Challenge.RW_tc0059_01
noncomputable section
open PySem PySem.W PyProof.Rows
set_option Elab.async false
set_option maxRecDepth 100000
set_option maxHeartbeats 8000000
set_option linter.unusedVariables false
namespace Mine
/-! ### the objects of the heap at law's start that the proof reads -/
noncomputable abbrev PG : Program := PySem.Challenge.rw_tc0059_01.row.prog
noncomputable def fO (t : Stmt) (q pm : Str) (pt : Tok) (code : Addr) (d : Value) : Obj := match t with
  | Stmt.FunctionDef n ps b _ _ _ sc .. => { cls := .type "function", data := .func { name := n, qualname := q, params := ps, body := .stmts b, scope := sc, globals := 3, closure := [], defaults := d, kwdefaults := .none, pyModule := .str pm pt, code := .ref code } }
  | _ => { cls := .none, data := .plain }
noncomputable abbrev cO (vs : Array Value) : Obj := { cls := .type "code", data := .fields vs }
noncomputable abbrev tO (vs : Array Value) : Obj := { cls := .type "tuple", data := .seq vs }
noncomputable abbrev en (P : Params) (x : Str) (t : Tok) (v : Value) : DictEntry := { hash := PyData.keyHash P x, key := .str x t, val := v }
noncomputable def clB : List Stmt := match (PG.main.body[7]? : Option Stmt) with
  | some (Stmt.ClassDef _ _ _ b ..) => b
  | _ => []
noncomputable def st38 : { t : Stmt // PG.main.body[1]? = some t } := ⟨_, by with_unfolding_all rfl⟩
noncomputable def st61 : { t : Stmt // PG.main.body[6]? = some t } := ⟨_, by with_unfolding_all rfl⟩
noncomputable def st76 : { t : Stmt // clB[0]? = some t } := ⟨_, by with_unfolding_all rfl⟩
noncomputable def st83 : { t : Stmt // clB[1]? = some t } := ⟨_, by with_unfolding_all rfl⟩
noncomputable def st90 : { t : Stmt // clB[2]? = some t } := ⟨_, by with_unfolding_all rfl⟩
noncomputable def st97 : { t : Stmt // clB[3]? = some t } := ⟨_, by with_unfolding_all rfl⟩
noncomputable def st102 : { t : Stmt // clB[4]? = some t } := ⟨_, by with_unfolding_all rfl⟩
noncomputable def st109 : { t : Stmt // clB[5]? = some t } := ⟨_, by with_unfolding_all rfl⟩
noncomputable def st116 : { t : Stmt // clB[6]? = some t } := ⟨_, by with_unfolding_all rfl⟩
noncomputable def st121 : { t : Stmt // clB[7]? = some t } := ⟨_, by with_unfolding_all rfl⟩
noncomputable def st129 : { t : Stmt // clB[8]? = some t } := ⟨_, by with_unfolding_all rfl⟩
noncomputable def st134 : { t : Stmt // clB[9]? = some t } := ⟨_, by with_unfolding_all rfl⟩
noncomputable def st139 : { t : Stmt // clB[10]? = some t } := ⟨_, by with_unfolding_all rfl⟩
noncomputable def st146 : { t : Stmt // clB[11]? = some t } := ⟨_, by with_unfolding_all rfl⟩
noncomputable def st153 : { t : Stmt // clB[12]? = some t } := ⟨_, by with_unfolding_all rfl⟩
noncomputable def st158 : { t : Stmt // clB[13]? = some t } := ⟨_, by with_unfolding_all rfl⟩
noncomputable def st165 : { t : Stmt // clB[14]? = some t } := ⟨_, by with_unfolding_all rfl⟩
noncomputable def st172 : { t : Stmt // clB[15]? = some t } := ⟨_, by with_unfolding_all rfl⟩
noncomputable def st179 : { t : Stmt // clB[16]? = some t } := ⟨_, by with_unfolding_all rfl⟩
noncomputable def st193 : { t : Stmt // PG.main.body[9]? = some t } := ⟨_, by with_unfolding_all rfl⟩
noncomputable def st200 : { t : Stmt // PG.main.body[10]? = some t } := ⟨_, by with_unfolding_all rfl⟩
noncomputable def st207 : { t : Stmt // PG.main.body[11]? = some t } := ⟨_, by with_unfolding_all rfl⟩
noncomputable def st217 : { t : Stmt // PG.main.body[63]? = some t } := ⟨_, by with_unfolding_all rfl⟩
noncomputable def st222 : { t : Stmt // PG.main.body[65]? = some t } := ⟨_, by with_unfolding_all rfl⟩
noncomputable def st227 : { t : Stmt // PG.main.body[66]? = some t } := ⟨_, by with_unfolding_all rfl⟩
noncomputable def st234 : { t : Stmt // PG.main.body[67]? = some t } := ⟨_, by with_unfolding_all rfl⟩
noncomputable def st239 : { t : Stmt // PG.main.body[68]? = some t } := ⟨_, by with_unfolding_all rfl⟩
noncomputable def st244 : { t : Stmt // PG.main.body[69]? = some t } := ⟨_, by with_unfolding_all rfl⟩
noncomputable def st249 : { t : Stmt // PG.main.body[70]? = some t } := ⟨_, by with_unfolding_all rfl⟩
noncomputable def st254 : { t : Stmt // PG.main.body[71]? = some t } := ⟨_, by with_unfolding_all rfl⟩
noncomputable def k2 (P : Params) : Obj := { cls := .none, data := Data.dict #[en P ⟨#[105, 109, 112, 111, 114, 116, 46, 108, 111, 97, 100, 101, 100, 46, 95, 115, 114, 101]⟩ 183 (.bool true), en P "class._frozen_importlib.BuiltinImporter" 185 (.ref 14), en P ⟨#[119, 97, 116, 99, 104, 101, 100, 46, 105, 109, 112, 111, 114, 116]⟩ 206 (.ref 18), en P "class._frozen_importlib.ModuleSpec" 216 (.ref 22), en P "sys.modules.booked-epoch" 245 (.int 3 0), en P ⟨#[105, 109, 112, 111, 114, 116, 46, 108, 97, 116, 101, 114, 45, 108, 97, 105, 100, 46, 95, 115, 114, 101]⟩ 270 (.bool true), en P "watched.library" 272 (.ref 27), en P "watched.library-objects" 0 (.str "\x0c" 0), en P "watched.library-deep._sre" 273 (.str "\x04\x00\x00\x0b\x04\x00\x00\x0b\x04\x00\x00\x03\x04\x00\x00\x0b\x08\x04dict\x02" 0)] 9 }
noncomputable def k3 (P : Params) : Obj := { cls := .type "dict", data := Data.dict #[en P "__name__" 165 (.str "law_tc0059_01" 790), en P "__doc__" 166 .none, en P "__package__" 167 .none, en P "__loader__" 168 (.builtin "__main__.__loader__#opaque"), en P "__spec__" 169 .none, en P "__annotations__" 170 (.ref 6), en P "__builtins__" 171 (.ref 4), en P "__file__" 173 (.str "/claim/cut.py" 172), en P "__cached__" 174 .none, en P "_sre" 275 (.ref 12), en P "_wall" 288 (.ref 38), en P "tspecials" 324 (.ref 43), en P "_name_disallowed_re" 350 (.ref 48), en P "_value_disallowed_re" 384 (.ref 53), en P "_formatparam" 394 (.ref 61), en P "Headers" 551 (.ref 182), en P "_iter_escaped_chars" 563 (.ref 193), en P "_strip_quoted_realnames" 575 (.ref 200), en P "_check_parenthesis" 585 (.ref 207), en P "LPAR" 589 (.int 7 588), en P "RPAR" 591 (.int 8 590), en P "LSQB" 593 (.int 9 592), en P "RSQB" 595 (.int 10 594), en P "COLON" 597 (.int 11 596), en P "COMMA" 599 (.int 12 598), en P "SEMI" 601 (.int 13 600), en P "PLUS" 603 (.int 14 602), en P "MINUS" 605 (.int 15 604), en P "STAR" 607 (.int 16 606), en P "SLASH" 609 (.int 17 608), en P "VBAR" 611 (.int 18 610), en P "AMPER" 613 (.int 19 612), en P "LESS" 615 (.int 20 614), en P "GREATER" 617 (.int 21 616), en P "EQUAL" 619 (.int 22 618), en P "DOT" 621 (.int 23 620), en P "PERCENT" 623 (.int 24 622), en P "LBRACE" 625 (.int 25 624), en P "RBRACE" 627 (.int 26 626), en P "EQEQUAL" 629 (.int 27 628), en P "NOTEQUAL" 631 (.int 28 630), en P "LESSEQUAL" 633 (.int 29 632), en P "GREATEREQUAL" 635 (.int 30 634), en P "TILDE" 637 (.int 31 636), en P "CIRCUMFLEX" 639 (.int 32 638), en P "LEFTSHIFT" 641 (.int 33 640), en P "RIGHTSHIFT" 643 (.int 34 642), en P "DOUBLESTAR" 645 (.int 35 644), en P "PLUSEQUAL" 647 (.int 36 646), en P "MINEQUAL" 649 (.int 37 648), en P "STAREQUAL" 651 (.int 38 650), en P "SLASHEQUAL" 653 (.int 39 652), en P "PERCENTEQUAL" 655 (.int 40 654), en P "AMPEREQUAL" 657 (.int 41 656), en P "VBAREQUAL" 659 (.int 42 658), en P "CIRCUMFLEXEQUAL" 661 (.int 43 660), en P "LEFTSHIFTEQUAL" 663 (.int 44 662), en P "RIGHTSHIFTEQUAL" 665 (.int 45 664), en P "DOUBLESTAREQUAL" 667 (.int 46 666), en P "DOUBLESLASH" 669 (.int 47 668), en P "DOUBLESLASHEQUAL" 671 (.int 48 670), en P "AT" 673 (.int 49 672), en P "ATEQUAL" 675 (.int 50 674), en P "RARROW" 677 (.int 51 676), en P "ELLIPSIS" 679 (.int 52 678), en P "COLONEQUAL" 681 (.int 53 680), en P "EXCLAMATION" 683 (.int 54 682), en P "NT_OFFSET" 685 (.int 256 684), en P "EXACT_TOKEN_TYPES" 782 (.ref 208), en P "ISNONTERMINAL" 789 (.ref 217), en P "_law_drawn" 797 (.ref 222), en P "_law_parsed" 803 (.ref 227), en P "_law_spread" 811 (.ref 234), en P "_law_proved" 817 (.ref 239), en P "_law_model" 823 (.ref 244), en P "_law_worlds" 829 (.ref 249), en P "law" 835 (.ref 254)] 77 }
noncomputable def k32 (P : Params) : Obj := tO #[]
noncomputable def k34 (P : Params) : Obj := tO #[.str "k" 285]
noncomputable def k35 (P : Params) : Obj := tO #[]
noncomputable def k37 (P : Params) : Obj := cO #[.str "_wall" 282, .str "_wall" 283, .str "/claim/cut.py" 284, .int 2 0, .int 1 0, .int 0 0, .int 0 0, .int 3 0, .ref 32, .bool true, .int 276 0, .ref 33, .none, .ref 34, .ref 35, .ref 36, .int 286 0, .int 2 0, .str "/claim/cut.py" 287]
noncomputable def k38 (P : Params) : Obj := fO st38.1 "_wall" "__main__" 164 37 (.none)
noncomputable def k42 (P : Params) : Obj := tO #[.int 14 0, .int 14 0, .int 4 0, .int 1 0, .int 1 0, .int 9 0, .int 0 0, .int 4227896069 0, .int 939524097 0, .int 0 0, .int 0 0, .int 0 0, .int 0 0, .int 0 0, .int 0 0, .int 13 0, .int 11 0, .int 9 0, .int 0 0, .int 4227896069 0, .int 939524097 0, .int 0 0, .int 0 0, .int 0 0, .int 0 0, .int 0 0, .int 0 0, .int 1 0]
noncomputable def k43 (P : Params) : Obj := { cls := .type "re.Pattern", data := Data.fields #[.str "[ \\(\\)<>@,;:\\\\\"/\\[\\]\\?=]" 292, .int 32 323, .int 0 0, .none, .none, .ref 42, .int 0 0] }
noncomputable def k47 (P : Params) : Obj := tO #[.int 14 0, .int 10 0, .int 4 0, .int 1 0, .int 1 0, .int 22 0, .int 0 0, .int 31 0, .int 16 0, .int 127 0, .int 0 0, .int 13 0, .int 7 0, .int 22 0, .int 0 0, .int 31 0, .int 16 0, .int 127 0, .int 0 0, .int 1 0]
noncomputable def k48 (P : Params) : Obj := { cls := .type "re.Pattern", data := Data.fields #[.str "[\\x00-\\x1F\\x7F]" 326, .int 32 349, .int 0 0, .none, .none, .ref 47, .int 0 0] }
noncomputable def k52 (P : Params) : Obj := tO #[.int 14 0, .int 14 0, .int 4 0, .int 1 0, .int 1 0, .int 9 0, .int 4294966783 0, .int 0 0, .int 0 0, .int 2147483648 0, .int 0 0, .int 0 0, .int 0 0, .int 0 0, .int 0 0, .int 13 0, .int 11 0, .int 9 0, .int 4294966783 0, .int 0 0, .int 0 0, .int 2147483648 0, .int 0 0, .int 0 0, .int 0 0, .int 0 0, .int 0 0, .int 1 0]
noncomputable def k53 (P : Params) : Obj := { cls := .type "re.Pattern", data := Data.fields #[.str "[\\x00-\\x08\\x0A-\\x1F\\x7F]" 352, .int 32 383, .int 0 0, .none, .none, .ref 52, .int 0 0] }
noncomputable def k54 (P : Params) : Obj := tO #[.none, .int 1 385]
noncomputable def k55 (P : Params) : Obj := tO #[]
noncomputable def k57 (P : Params) : Obj := tO #[.str "param" 389, .str "value" 390, .str "quote" 391]
noncomputable def k58 (P : Params) : Obj := tO #[]
noncomputable def k60 (P : Params) : Obj := cO #[.str "_formatparam" 386, .str "_formatparam" 387, .str "/claim/cut.py" 388, .int 9 0, .int 3 0, .int 0 0, .int 0 0, .int 3 0, .ref 55, .bool true, .int 276 0, .ref 56, .none, .ref 57, .ref 58, .ref 59, .int 392 0, .int 9 0, .str "/claim/cut.py" 393]
noncomputable def k61 (P : Params) : Obj := fO st61.1 "_formatparam" "cpy313.wsgiref.headers" 289 60 (.ref 54)
noncomputable def k69 (P : Params) : Obj := tO #[.none]
noncomputable def k70 (P : Params) : Obj := tO #[]
noncomputable def k72 (P : Params) : Obj := tO #[.str "self" 410, .str "headers" 411, .str "k" 412, .str "v" 413]
noncomputable def k73 (P : Params) : Obj := tO #[]
noncomputable def k75 (P : Params) : Obj := cO #[.str "__init__" 407, .str "Headers.__init__" 408, .str "/claim/cut.py" 409, .int 20 0, .int 2 0, .int 0 0, .int 0 0, .int 3 0, .ref 70, .bool true, .int 276 0, .ref 71, .none, .ref 72, .ref 73, .ref 74, .int 414 0, .int 20 0, .str "/claim/cut.py" 415]
noncomputable def k76 (P : Params) : Obj := fO st76.1 "Headers.__init__" "cpy313.wsgiref.headers" 289 75 (.ref 69)
noncomputable def k77 (P : Params) : Obj := tO #[]
noncomputable def k79 (P : Params) : Obj := tO #[.str "self" 420, .str "value" 421, .str "name" 422, .str "regex" 423]
noncomputable def k80 (P : Params) : Obj := tO #[]
noncomputable def k82 (P : Params) : Obj := cO #[.str "_convert_string_type" 417, .str "Headers._convert_string_type" 418, .str "/claim/cut.py" 419, .int 30 0, .int 2 0, .int 0 0, .int 1 0, .int 3 0, .ref 77, .bool true, .int 276 0, .ref 78, .none, .ref 79, .ref 80, .ref 81, .int 424 0, .int 30 0, .str "/claim/cut.py" 425]
noncomputable def k83 (P : Params) : Obj := fO st83.1 "Headers._convert_string_type" "cpy313.wsgiref.headers" 289 82 (.none)
noncomputable def k84 (P : Params) : Obj := tO #[]
noncomputable def k86 (P : Params) : Obj := tO #[.str "self" 430]
noncomputable def k87 (P : Params) : Obj := tO #[]
noncomputable def k89 (P : Params) : Obj := cO #[.str "__len__" 427, .str "Headers.__len__" 428, .str "/claim/cut.py" 429, .int 38 0, .int 1 0, .int 0 0, .int 0 0, .int 3 0, .ref 84, .bool true, .int 276 0, .ref 85, .none, .ref 86, .ref 87, .ref 88, .int 431 0, .int 38 0, .str "/claim/cut.py" 432]
noncomputable def k90 (P : Params) : Obj := fO st90.1 "Headers.__len__" "cpy313.wsgiref.headers" 289 89 (.none)
noncomputable def k91 (P : Params) : Obj := tO #[]
noncomputable def k93 (P : Params) : Obj := tO #[.str "self" 437, .str "name" 438, .str "val" 439]
noncomputable def k94 (P : Params) : Obj := tO #[]
noncomputable def k96 (P : Params) : Obj := cO #[.str "__setitem__" 434, .str "Headers.__setitem__" 435, .str "/claim/cut.py" 436, .int 41 0, .int 3 0, .int 0 0, .int 0 0, .int 3 0, .ref 91, .bool true, .int 276 0, .ref 92, .none, .ref 93, .ref 94, .ref 95, .int 440 0, .int 41 0, .str "/claim/cut.py" 441]
noncomputable def k97 (P : Params) : Obj := fO st97.1 "Headers.__setitem__" "cpy313.wsgiref.headers" 289 96 (.none)
noncomputable def k98 (P : Params) : Obj := tO #[]
noncomputable def k101 (P : Params) : Obj := cO #[.str "__delitem__" 443, .str "Headers.__delitem__" 444, .str "/claim/cut.py" 445, .int 45 0, .int 2 0, .int 0 0, .int 0 0, .int 3 0, .ref 98, .bool true, .int 276 0, .ref 99, .none, .none, .none, .ref 100, .int 446 0, .int 45 0, .str "/claim/cut.py" 447]
noncomputable def k102 (P : Params) : Obj := fO st102.1 "Headers.__delitem__" "cpy313.wsgiref.headers" 289 101 (.none)
noncomputable def k103 (P : Params) : Obj := tO #[]
noncomputable def k105 (P : Params) : Obj := tO #[.str "self" 452, .str "name" 453]
noncomputable def k106 (P : Params) : Obj := tO #[]
noncomputable def k108 (P : Params) : Obj := cO #[.str "__getitem__" 449, .str "Headers.__getitem__" 450, .str "/claim/cut.py" 451, .int 49 0, .int 2 0, .int 0 0, .int 0 0, .int 3 0, .ref 103, .bool true, .int 276 0, .ref 104, .none, .ref 105, .ref 106, .ref 107, .int 454 0, .int 49 0, .str "/claim/cut.py" 455]
noncomputable def k109 (P : Params) : Obj := fO st109.1 "Headers.__getitem__" "cpy313.wsgiref.headers" 289 108 (.none)
noncomputable def k110 (P : Params) : Obj := tO #[]
noncomputable def k112 (P : Params) : Obj := tO #[.str "self" 460, .str "name" 461]
noncomputable def k113 (P : Params) : Obj := tO #[]
noncomputable def k115 (P : Params) : Obj := cO #[.str "__contains__" 457, .str "Headers.__contains__" 458, .str "/claim/cut.py" 459, .int 52 0, .int 2 0, .int 0 0, .int 0 0, .int 3 0, .ref 110, .bool true, .int 276 0, .ref 111, .none, .ref 112, .ref 113, .ref 114, .int 462 0, .int 52 0, .str "/claim/cut.py" 463]
noncomputable def k116 (P : Params) : Obj := fO st116.1 "Headers.__contains__" "cpy313.wsgiref.headers" 289 115 (.none)
noncomputable def k117 (P : Params) : Obj := tO #[]
noncomputable def k120 (P : Params) : Obj := cO #[.str "get_all" 465, .str "Headers.get_all" 466, .str "/claim/cut.py" 467, .int 55 0, .int 2 0, .int 0 0, .int 0 0, .int 3 0, .ref 117, .bool true, .int 276 0, .ref 118, .none, .none, .none, .ref 119, .int 468 0, .int 55 0, .str "/claim/cut.py" 469]
noncomputable def k121 (P : Params) : Obj := fO st121.1 "Headers.get_all" "cpy313.wsgiref.headers" 289 120 (.none)
noncomputable def k122 (P : Params) : Obj := tO #[.none]
noncomputable def k123 (P : Params) : Obj := tO #[]
noncomputable def k125 (P : Params) : Obj := tO #[.str "self" 474, .str "name" 475, .str "default" 476, .str "k" 477, .str "v" 478]
noncomputable def k126 (P : Params) : Obj := tO #[]
noncomputable def k128 (P : Params) : Obj := cO #[.str "get" 471, .str "Headers.get" 472, .str "/claim/cut.py" 473, .int 59 0, .int 3 0, .int 0 0, .int 0 0, .int 3 0, .ref 123, .bool true, .int 276 0, .ref 124, .none, .ref 125, .ref 126, .ref 127, .int 479 0, .int 59 0, .str "/claim/cut.py" 480]
noncomputable def k129 (P : Params) : Obj := fO st129.1 "Headers.get" "cpy313.wsgiref.headers" 289 128 (.ref 122)
noncomputable def k130 (P : Params) : Obj := tO #[]
noncomputable def k133 (P : Params) : Obj := cO #[.str "keys" 482, .str "Headers.keys" 483, .str "/claim/cut.py" 484, .int 66 0, .int 1 0, .int 0 0, .int 0 0, .int 3 0, .ref 130, .bool true, .int 276 0, .ref 131, .none, .none, .none, .ref 132, .int 485 0, .int 66 0, .str "/claim/cut.py" 486]
noncomputable def k134 (P : Params) : Obj := fO st134.1 "Headers.keys" "cpy313.wsgiref.headers" 289 133 (.none)
noncomputable def k135 (P : Params) : Obj := tO #[]
noncomputable def k138 (P : Params) : Obj := cO #[.str "values" 488, .str "Headers.values" 489, .str "/claim/cut.py" 490, .int 69 0, .int 1 0, .int 0 0, .int 0 0, .int 3 0, .ref 135, .bool true, .int 276 0, .ref 136, .none, .none, .none, .ref 137, .int 491 0, .int 69 0, .str "/claim/cut.py" 492]
noncomputable def k139 (P : Params) : Obj := fO st139.1 "Headers.values" "cpy313.wsgiref.headers" 289 138 (.none)
noncomputable def k140 (P : Params) : Obj := tO #[]
noncomputable def k142 (P : Params) : Obj := tO #[.str "self" 497]
noncomputable def k143 (P : Params) : Obj := tO #[]
noncomputable def k145 (P : Params) : Obj := cO #[.str "items" 494, .str "Headers.items" 495, .str "/claim/cut.py" 496, .int 72 0, .int 1 0, .int 0 0, .int 0 0, .int 3 0, .ref 140, .bool true, .int 276 0, .ref 141, .none, .ref 142, .ref 143, .ref 144, .int 498 0, .int 72 0, .str "/claim/cut.py" 499]
noncomputable def k146 (P : Params) : Obj := fO st146.1 "Headers.items" "cpy313.wsgiref.headers" 289 145 (.none)
noncomputable def k147 (P : Params) : Obj := tO #[]
noncomputable def k149 (P : Params) : Obj := tO #[.str "self" 504]
noncomputable def k150 (P : Params) : Obj := tO #[]
noncomputable def k152 (P : Params) : Obj := cO #[.str "__repr__" 501, .str "Headers.__repr__" 502, .str "/claim/cut.py" 503, .int 75 0, .int 1 0, .int 0 0, .int 0 0, .int 3 0, .ref 147, .bool true, .int 276 0, .ref 148, .none, .ref 149, .ref 150, .ref 151, .int 505 0, .int 75 0, .str "/claim/cut.py" 506]
noncomputable def k153 (P : Params) : Obj := fO st153.1 "Headers.__repr__" "cpy313.wsgiref.headers" 289 152 (.none)
noncomputable def k154 (P : Params) : Obj := tO #[]
noncomputable def k157 (P : Params) : Obj := cO #[.str "__str__" 508, .str "Headers.__str__" 509, .str "/claim/cut.py" 510, .int 78 0, .int 1 0, .int 0 0, .int 0 0, .int 3 0, .ref 154, .bool true, .int 276 0, .ref 155, .none, .none, .none, .ref 156, .int 511 0, .int 78 0, .str "/claim/cut.py" 512]
noncomputable def k158 (P : Params) : Obj := fO st158.1 "Headers.__str__" "cpy313.wsgiref.headers" 289 157 (.none)
noncomputable def k159 (P : Params) : Obj := tO #[]
noncomputable def k161 (P : Params) : Obj := tO #[.str "self" 517]
noncomputable def k162 (P : Params) : Obj := tO #[]
noncomputable def k164 (P : Params) : Obj := cO #[.str "__bytes__" 514, .str "Headers.__bytes__" 515, .str "/claim/cut.py" 516, .int 81 0, .int 1 0, .int 0 0, .int 0 0, .int 3 0, .ref 159, .bool true, .int 276 0, .ref 160, .none, .ref 161, .ref 162, .ref 163, .int 518 0, .int 81 0, .str "/claim/cut.py" 519]
noncomputable def k165 (P : Params) : Obj := fO st165.1 "Headers.__bytes__" "cpy313.wsgiref.headers" 289 164 (.none)
noncomputable def k166 (P : Params) : Obj := tO #[]
noncomputable def k168 (P : Params) : Obj := tO #[.str "self" 524, .str "name" 525, .str "value" 526]
noncomputable def k169 (P : Params) : Obj := tO #[]
noncomputable def k171 (P : Params) : Obj := cO #[.str "setdefault" 521, .str "Headers.setdefault" 522, .str "/claim/cut.py" 523, .int 84 0, .int 3 0, .int 0 0, .int 0 0, .int 3 0, .ref 166, .bool true, .int 276 0, .ref 167, .none, .ref 168, .ref 169, .ref 170, .int 527 0, .int 84 0, .str "/claim/cut.py" 528]
noncomputable def k172 (P : Params) : Obj := fO st172.1 "Headers.setdefault" "cpy313.wsgiref.headers" 289 171 (.none)
noncomputable def k173 (P : Params) : Obj := tO #[]
noncomputable def k175 (P : Params) : Obj := tO #[.str "self" 533, .str "_name" 534, .str "_value" 535, .str "_params" 536, .str "parts" 537, .str "k" 538, .str "v" 539]
noncomputable def k176 (P : Params) : Obj := tO #[]
noncomputable def k178 (P : Params) : Obj := cO #[.str "add_header" 530, .str "Headers.add_header" 531, .str "/claim/cut.py" 532, .int 87 0, .int 3 0, .int 0 0, .int 0 0, .int 11 0, .ref 173, .bool true, .int 276 0, .ref 174, .none, .ref 175, .ref 176, .ref 177, .int 540 0, .int 87 0, .str "/claim/cut.py" 541]
noncomputable def k179 (P : Params) : Obj := fO st179.1 "Headers.add_header" "cpy313.wsgiref.headers" 289 178 (.none)
noncomputable def k180 (P : Params) : Obj := tO #[.str "_headers" 543]
noncomputable def k181 (P : Params) : Obj := { cls := .type "dict", data := Data.dict #[en P "__module__" 402 (.str "cpy313.wsgiref.headers" 289), en P "__firstlineno__" 406 (.int 18 405), en P "__init__" 416 (.ref 76), en P "_convert_string_type" 426 (.ref 83), en P "__len__" 433 (.ref 90), en P "__setitem__" 442 (.ref 97), en P "__delitem__" 448 (.ref 102), en P "__getitem__" 456 (.ref 109), en P "__contains__" 464 (.ref 116), en P "get_all" 470 (.ref 121), en P "get" 481 (.ref 129), en P "keys" 487 (.ref 134), en P "values" 493 (.ref 139), en P "items" 500 (.ref 146), en P "__repr__" 507 (.ref 153), en P "__str__" 513 (.ref 158), en P "__bytes__" 520 (.ref 165), en P "setdefault" 529 (.ref 172), en P "add_header" 542 (.ref 179), en P "__static_attributes__" 544 (.ref 180), en P "__dict__" 546 (.ref 183), en P "__weakref__" 548 (.ref 184), en P "__doc__" 549 .none] 4 }
noncomputable def k182 (P : Params) : Obj := { cls := .type "type", data := Data.cls { name := "Headers", bases := [.type "object"], mro := [.ref 182, .type "object"], ns := 181, qualname := "Headers" }, slots := #[none, none, some (.str "Headers" 395), some (.str "Headers" 403), some (.builtin "object.__new__"), some (.bool true)] }
noncomputable def k183 (P : Params) : Obj := { cls := .type "getset_descriptor", data := Data.fields #[.str "__dict__" 545, .ref 182, .builtin "function.__dict__", .builtin "function.__dict__#set"] }
noncomputable def k184 (P : Params) : Obj := { cls := .type "getset_descriptor", data := Data.fields #[.str "__weakref__" 547, .ref 182, .builtin "ExceptionGroup.__weakref__", .none] }
noncomputable def k187 (P : Params) : Obj := tO #[]
noncomputable def k189 (P : Params) : Obj := tO #[.str "addr" 557, .str "pos" 558, .str "escape" 559, .str "ch" 560]
noncomputable def k190 (P : Params) : Obj := tO #[]
noncomputable def k192 (P : Params) : Obj := cO #[.str "_iter_escaped_chars" 554, .str "_iter_escaped_chars" 555, .str "/claim/cut.py" 556, .int 101 0, .int 1 0, .int 0 0, .int 0 0, .int 35 0, .ref 187, .bool true, .int 276 0, .ref 188, .none, .ref 189, .ref 190, .ref 191, .int 561 0, .int 101 0, .str "/claim/cut.py" 562]
noncomputable def k193 (P : Params) : Obj := fO st193.1 "_iter_escaped_chars" "cpy313.email.utils" 552 192 (.none)
noncomputable def k194 (P : Params) : Obj := tO #[]
noncomputable def k196 (P : Params) : Obj := tO #[.str "addr" 567, .str "start" 568, .str "open_pos" 569, .str "result" 570, .str "pos" 571, .str "ch" 572]
noncomputable def k197 (P : Params) : Obj := tO #[]
noncomputable def k199 (P : Params) : Obj := cO #[.str "_strip_quoted_realnames" 564, .str "_strip_quoted_realnames" 565, .str "/claim/cut.py" 566, .int 114 0, .int 1 0, .int 0 0, .int 0 0, .int 3 0, .ref 194, .bool true, .int 276 0, .ref 195, .none, .ref 196, .ref 197, .ref 198, .int 573 0, .int 114 0, .str "/claim/cut.py" 574]
noncomputable def k200 (P : Params) : Obj := fO st200.1 "_strip_quoted_realnames" "cpy313.email.utils" 552 199 (.none)
noncomputable def k201 (P : Params) : Obj := tO #[]
noncomputable def k203 (P : Params) : Obj := tO #[.str "addr" 579, .str "opens" 580, .str "pos" 581, .str "ch" 582]
noncomputable def k204 (P : Params) : Obj := tO #[]
noncomputable def k206 (P : Params) : Obj := cO #[.str "_check_parenthesis" 576, .str "_check_parenthesis" 577, .str "/claim/cut.py" 578, .int 132 0, .int 1 0, .int 0 0, .int 0 0, .int 3 0, .ref 201, .bool true, .int 276 0, .ref 202, .none, .ref 203, .ref 204, .ref 205, .int 583 0, .int 132 0, .str "/claim/cut.py" 584]
noncomputable def k207 (P : Params) : Obj := fO st207.1 "_check_parenthesis" "cpy313.email.utils" 552 206 (.none)
noncomputable def k208 (P : Params) : Obj := { cls := .type "dict", data := Data.dict #[en P "!" 686 (.int 54 682), en P "!=" 688 (.int 28 630), en P "%" 690 (.int 24 622), en P "%=" 692 (.int 40 654), en P "&" 694 (.int 19 612), en P "&=" 696 (.int 41 656), en P "(" 698 (.int 7 588), en P ")" 700 (.int 8 590), en P "*" 702 (.int 16 606), en P "**" 704 (.int 35 644), en P "**=" 706 (.int 46 666), en P "*=" 708 (.int 38 650), en P "+" 710 (.int 14 602), en P "+=" 712 (.int 36 646), en P "," 714 (.int 12 598), en P "-" 716 (.int 15 604), en P "-=" 718 (.int 37 648), en P "->" 720 (.int 51 676), en P "." 722 (.int 23 620), en P "..." 724 (.int 52 678), en P "/" 726 (.int 17 608), en P "//" 728 (.int 47 668), en P "//=" 730 (.int 48 670), en P "/=" 732 (.int 39 652), en P ":" 734 (.int 11 596), en P ":=" 736 (.int 53 680), en P ";" 738 (.int 13 600), en P "<" 740 (.int 20 614), en P "<<" 742 (.int 33 640), en P "<<=" 744 (.int 44 662), en P "<=" 746 (.int 29 632), en P "=" 748 (.int 22 618), en P "==" 750 (.int 27 628), en P ">" 752 (.int 21 616), en P ">=" 754 (.int 30 634), en P ">>" 755 (.int 34 642), en P ">>=" 756 (.int 45 664), en P "@" 757 (.int 49 672), en P "@=" 758 (.int 50 674), en P "[" 759 (.int 9 592), en P "]" 760 (.int 10 594), en P "^" 761 (.int 32 638), en P "^=" 762 (.int 43 660), en P "{" 763 (.int 25 624), en P "|" 764 (.int 18 610), en P "|=" 765 (.int 42 658), en P "}" 766 (.int 26 626), en P "~" 767 (.int 31 636)] 48 }
noncomputable def k211 (P : Params) : Obj := tO #[]
noncomputable def k213 (P : Params) : Obj := tO #[.str "x" 786]
noncomputable def k214 (P : Params) : Obj := tO #[]
noncomputable def k216 (P : Params) : Obj := cO #[.str "ISNONTERMINAL" 783, .str "ISNONTERMINAL" 784, .str "/claim/cut.py" 785, .int 194 0, .int 1 0, .int 0 0, .int 0 0, .int 3 0, .ref 211, .bool true, .int 276 0, .ref 212, .none, .ref 213, .ref 214, .ref 215, .int 787 0, .int 194 0, .str "/claim/cut.py" 788]
noncomputable def k217 (P : Params) : Obj := fO st217.1 "ISNONTERMINAL" "cpy313.token" 586 216 (.none)
noncomputable def k218 (P : Params) : Obj := tO #[]
noncomputable def k221 (P : Params) : Obj := cO #[.str "_law_drawn" 792, .str "_law_drawn" 793, .str "/claim/cut.py" 794, .int 197 0, .int 4 0, .int 0 0, .int 0 0, .int 3 0, .ref 218, .bool true, .int 276 0, .ref 219, .none, .none, .none, .ref 220, .int 795 0, .int 197 0, .str "/claim/cut.py" 796]
noncomputable def k222 (P : Params) : Obj := fO st222.1 "_law_drawn" "law_tc0059_01" 790 221 (.none)
noncomputable def k223 (P : Params) : Obj := tO #[]
noncomputable def k226 (P : Params) : Obj := cO #[.str "_law_parsed" 798, .str "_law_parsed" 799, .str "/claim/cut.py" 800, .int 211 0, .int 1 0, .int 0 0, .int 0 0, .int 3 0, .ref 223, .bool true, .int 276 0, .ref 224, .none, .none, .none, .ref 225, .int 801 0, .int 211 0, .str "/claim/cut.py" 802]
noncomputable def k227 (P : Params) : Obj := fO st227.1 "_law_parsed" "law_tc0059_01" 790 226 (.none)
noncomputable def k228 (P : Params) : Obj := tO #[]
noncomputable def k230 (P : Params) : Obj := tO #[.str "tree" 807, .str "row" 808]
noncomputable def k231 (P : Params) : Obj := tO #[]
noncomputable def k233 (P : Params) : Obj := cO #[.str "_law_spread" 804, .str "_law_spread" 805, .str "/claim/cut.py" 806, .int 225 0, .int 1 0, .int 0 0, .int 0 0, .int 3 0, .ref 228, .bool true, .int 276 0, .ref 229, .none, .ref 230, .ref 231, .ref 232, .int 809 0, .int 225 0, .str "/claim/cut.py" 810]
noncomputable def k234 (P : Params) : Obj := fO st234.1 "_law_spread" "law_tc0059_01" 790 233 (.none)
noncomputable def k235 (P : Params) : Obj := tO #[]
noncomputable def k238 (P : Params) : Obj := cO #[.str "_law_proved" 812, .str "_law_proved" 813, .str "/claim/cut.py" 814, .int 231 0, .int 5 0, .int 0 0, .int 0 0, .int 3 0, .ref 235, .bool true, .int 276 0, .ref 236, .none, .none, .none, .ref 237, .int 815 0, .int 231 0, .str "/claim/cut.py" 816]
noncomputable def k239 (P : Params) : Obj := fO st239.1 "_law_proved" "law_tc0059_01" 790 238 (.none)
noncomputable def k240 (P : Params) : Obj := tO #[]
noncomputable def k243 (P : Params) : Obj := cO #[.str "_law_model" 818, .str "_law_model" 819, .str "/claim/cut.py" 820, .int 251 0, .int 3 0, .int 0 0, .int 0 0, .int 3 0, .ref 240, .bool true, .int 276 0, .ref 241, .none, .none, .none, .ref 242, .int 821 0, .int 251 0, .str "/claim/cut.py" 822]
noncomputable def k244 (P : Params) : Obj := fO st244.1 "_law_model" "law_tc0059_01" 790 243 (.none)
noncomputable def k245 (P : Params) : Obj := tO #[]
noncomputable def k248 (P : Params) : Obj := cO #[.str "_law_worlds" 824, .str "_law_worlds" 825, .str "/claim/cut.py" 826, .int 259 0, .int 3 0, .int 0 0, .int 0 0, .int 3 0, .ref 245, .bool true, .int 276 0, .ref 246, .none, .none, .none, .ref 247, .int 827 0, .int 259 0, .str "/claim/cut.py" 828]
noncomputable def k249 (P : Params) : Obj := fO st249.1 "_law_worlds" "law_tc0059_01" 790 248 (.none)
noncomputable def k250 (P : Params) : Obj := tO #[]
noncomputable def k253 (P : Params) : Obj := cO #[.str "law" 830, .str "law" 831, .str "/claim/cut.py" 832, .int 264 0, .int 1 0, .int 0 0, .int 0 0, .int 3 0, .ref 250, .bool true, .int 276 0, .ref 251, .none, .none, .none, .ref 252, .int 833 0, .int 264 0, .str "/claim/cut.py" 834]
noncomputable def k254 (P : Params) : Obj := fO st254.1 "law" "law_tc0059_01" 790 253 (.none)
noncomputable def kf (P : Params) : Frag := [(2, k2 P), (3, k3 P), (32, k32 P), (34, k34 P), (35, k35 P), (37, k37 P), (38, k38 P), (42, k42 P), (43, k43 P), (47, k47 P), (48, k48 P), (52, k52 P), (53, k53 P), (54, k54 P), (55, k55 P), (57, k57 P), (58, k58 P), (60, k60 P), (61, k61 P), (69, k69 P), (70, k70 P), (72, k72 P), (73, k73 P), (75, k75 P), (76, k76 P), (77, k77 P), (79, k79 P), (80, k80 P), (82, k82 P), (83, k83 P), (84, k84 P), (86, k86 P), (87, k87 P), (89, k89 P), (90, k90 P), (91, k91 P), (93, k93 P), (94, k94 P), (96, k96 P), (97, k97 P), (98, k98 P), (101, k101 P), (102, k102 P), (103, k103 P), (105, k105 P), (106, k106 P), (108, k108 P), (109, k109 P), (110, k110 P), (112, k112 P), (113, k113 P), (115, k115 P), (116, k116 P), (117, k117 P), (120, k120 P), (121, k121 P), (122, k122 P), (123, k123 P), (125, k125 P), (126, k126 P), (128, k128 P), (129, k129 P), (130, k130 P), (133, k133 P), (134, k134 P), (135, k135 P), (138, k138 P), (139, k139 P), (140, k140 P), (142, k142 P), (143, k143 P), (145, k145 P), (146, k146 P), (147, k147 P), (149, k149 P), (150, k150 P), (152, k152 P), (153, k153 P), (154, k154 P), (157, k157 P), (158, k158 P), (159, k159 P), (161, k161 P), (162, k162 P), (164, k164 P), (165, k165 P), (166, k166 P), (168, k168 P), (169, k169 P), (171, k171 P), (172, k172 P), (173, k173 P), (175, k175 P), (176, k176 P), (178, k178 P), (179, k179 P), (180, k180 P), (181, k181 P), (182, k182 P), (183, k183 P), (184, k184 P), (187, k187 P), (189, k189 P), (190, k190 P), (192, k192 P), (193, k193 P), (194, k194 P), (196, k196 P), (197, k197 P), (199, k199 P), (200, k200 P), (201, k201 P), (203, k203 P), (204, k204 P), (206, k206 P), (207, k207 P), (208, k208 P), (211, k211 P), (213, k213 P), (214, k214 P), (216, k216 P), (217, k217 P), (218, k218 P), (221, k221 P), (222, k222 P), (223, k223 P), (226, k226 P), (227, k227 P), (228, k228 P), (230, k230 P), (231, k231 P), (233, k233 P), (234, k234 P), (235, k235 P), (238, k238 P), (239, k239 P), (240, k240 P), (243, k243 P), (244, k244 P), (245, k245 P), (248, k248 P), (249, k249 P), (250, k250 P), (253, k253 P), (254, k254 P)]
noncomputable def kfs : List Nat := [2, 3, 32, 34, 35, 37, 38, 42, 43, 47, 48, 52, 53, 54, 55, 57, 58, 60, 61, 69, 70, 72, 73, 75, 76, 77, 79, 80, 82, 83, 84, 86, 87, 89, 90, 91, 93, 94, 96, 97, 98, 101, 102, 103, 105, 106, 108, 109, 110, 112, 113, 115, 116, 117, 120, 121, 122, 123, 125, 126, 128, 129, 130, 133, 134, 135, 138, 139, 140, 142, 143, 145, 146, 147, 149, 150, 152, 153, 154, 157, 158, 159, 161, 162, 164, 165, 166, 168, 169, 171, 172, 173, 175, 176, 178, 179, 180, 181, 182, 183, 184, 187, 189, 190, 192, 193, 194, 196, 197, 199, 200, 201, 203, 204, 206, 207, 208, 211, 213, 214, 216, 217, 218, 221, 222, 223, 226, 227, 228, 230, 231, 233, 234, 235, 238, 239, 240, 243, 244, 245, 248, 249, 250, 253, 254]
end Mine
end
noncomputable section
open PySem PySem.W PyProof.Rows PySem.Calls PySem.Spec
set_option Elab.async false
set_option maxRecDepth 100000
set_option linter.unusedVariables false
namespace Mine
/-! ### continuations with names: the terms stay small -/
section
variable (M : Model) (A : Around) (E : Value → Shared → Prop) (env : Env)
noncomputable abbrev opQ (op : Operator) (Q : Value → Shared → Prop) (a : Value) : Value → Shared → Prop := fun b s₂ => wpAny M A (binaryOp op a b) Q E s₂
noncomputable abbrev binQ (op : Operator) (r : Expr) (Q : Value → Shared → Prop) : Value → Shared → Prop := fun a s₁ => wpAny M A (eval r env) (opQ M A E op Q a) E s₁
noncomputable abbrev cmQ (op : CmpOp) (Q : Value → Shared → Prop) (a : Value) : Value → Shared → Prop := fun b s₂ => wpAny M A (compareOp op a b) Q E s₂
noncomputable abbrev cmpQ (op : CmpOp) (r : Expr) (Q : Value → Shared → Prop) : Value → Shared → Prop := fun a s₁ => wpAny M A (eval r env) (cmQ M A E op Q a) E s₁
noncomputable abbrev truQ (Q : Bool → Shared → Prop) : Value → Shared → Prop := fun c s₃ => wpAny M A (truthy c) Q E s₃
noncomputable abbrev tailQ (value slice : Expr) (Q : Value → Shared → Prop) (o : Value) : Value → Shared → Prop := fun i s₂ => wpAny M A (subscriptTail value slice o i) Q E s₂
noncomputable abbrev subQ (value slice : Expr) (Q : Value → Shared → Prop) : Value → Shared → Prop := fun o s₁ => wpAny M A (eval slice env) (tailQ M A E value slice Q o) E s₁
noncomputable abbrev asgQ (x : Str) (Q : Flow → Shared → Prop) : Value → Shared → Prop := fun v s₁ => wpAny M A (storeName env x v) (fun _ => Q .next) E s₁
noncomputable abbrev asgTQ (elts : List Expr) (k : Nat) (tpos : Pos) (Q : Flow → Shared → Prop) : Value → Shared → Prop := fun v s₁ => wpAny M A (assign (.Tuple elts k tpos) env v) (fun _ => Q .next) E s₁
noncomputable abbrev nextQ (rest : List Stmt) (Q : Flow → Shared → Prop) : Flow → Shared → Prop := fun f s' => match f with
  | .next => wpAny M A (execs rest env) Q E s'
  | f => Q f s'
noncomputable abbrev returnQ (Q : Flow → Shared → Prop) : Value → Shared → Prop := fun v => Q (.ret v)
noncomputable abbrev resQ (Q : Value → Shared → Prop) : Result → Shared → Prop := fun r s' => match r with
  | .ok (.ret v) => Q v s'
  | .ok _ => False
  | .error e => E e s'
noncomputable abbrev unQ (op : UnaryOp) (Q : Value → Shared → Prop) : Value → Shared → Prop := fun v s₁ => wpAny M A (unaryOp op v) Q E s₁
noncomputable abbrev errQ (R : Result → Shared → Prop) : Value → Shared → Prop := fun e s' => wpAny M (A.deeper env) (leaving env e) (fun _ s'' => R (.error e) s'') (fun e' s'' => R (.error e') s'') s'
noncomputable abbrev flowQ (R : Result → Shared → Prop) : Flow → Shared → Prop := fun f s' => R (.ok (.ret (match f with | .ret v => v | _ => .none))) s'
noncomputable abbrev argQ (pos : Pos) (rest : List Expr) (Q : List Value → Shared → Prop) : Value → Shared → Prop := fun v s₁ => wpAny M A (spliced (backTo pos (starEach rest env))) (fun vs s₂ => Q (v :: vs) s₂) E s₁
noncomputable abbrev oneQ (Q : List Value → Shared → Prop) : Value → Shared → Prop := fun v s₁ => Q [v] s₁
noncomputable abbrev doQ (g : Value) (Q : Value → Shared → Prop) : List Value → Shared → Prop := fun vs s₂ => wpAny M A (call g vs) Q E s₂
noncomputable abbrev calQ (g : Value) (pos : Pos) (es : List Expr) (Q : Value → Shared → Prop) : Value → Shared → Prop := fun f s₁ => f = g ∧ wpAny M A (spliced (backTo pos (starEach es env))) (doQ M A E g Q) E s₁
noncomputable abbrev camQ (Q : Flow → Shared → Prop) : Result → Shared → Prop := fun r s' => match r with
  | .ok f => Q f s'
  | .error e => cameBackBy M A env E e s'
end
section
variable {M : Model} {A : Around} {E : Value → Shared → Prop} {s : Shared} {env : Env}
theorem wpAny_BinOp {l r : Expr} {op : Operator} {pos : Pos} {Q : Value → Shared → Prop} (h : wpAny M A (eval l env) (binQ M A E env op r Q) E s) : wpAny M A (eval (l.BinOp op r pos) env) Q E s := PySem.wpAny_BinOp h
theorem Subscript_ {value slice : Expr} {pos : Pos} {Q : Value → Shared → Prop} (h : wpAny M A (eval value env) (subQ M A E env value slice Q) E s) : wpAny M A (eval (value.Subscript slice pos) env) Q E s := PyProof.Rows.Subscript_ h
theorem wpAny_Compare1 {l r : Expr} {op : CmpOp} {pos : Pos} {Q : Value → Shared → Prop} (h : wpAny M A (eval l env) (cmpQ M A E env op r Q) E s) (hb : behindInMarks op r = false := by kernel_rfl) : wpAny M A (eval (l.Compare [op] [r] pos) env) Q E s := PySem.wpAny_Compare1 h hb
theorem wpAny_isTrue_Compare1 {l r : Expr} {op : CmpOp} {pos : Pos} {whole : Sem Value} {Q : Bool → Shared → Prop} (h : wpAny M A (eval l env) (cmpQ M A E env op r (truQ M A E Q)) E s) (hb : behindInMarks op r = false := by kernel_rfl) : wpAny M A (isTrue (l.Compare [op] [r] pos) env whole) Q E s := PySem.wpAny_isTrue_Compare1 h hb
theorem wpAny_Assign_Name {x : Str} {pos' pos : Pos} {value : Expr} {Q : Flow → Shared → Prop} (h : wpAny M A (eval value env) (asgQ M A E env x Q) E s) (hs : swapsWith value (some (.Name x pos')) pos.line env = pure false := by rfl) : wpAny M A (exec (.Assign [.Name x pos'] value pos) env) Q E s := PySem.wpAny_Assign_Name h hs
theorem wpAny_Return_some {e : Expr} {pos : Pos} {Q : Flow → Shared → Prop} (h : wpAny M A (eval e env) (returnQ Q) E s) : wpAny M A (exec (.Return (some e) pos) env) Q E s := PySem.wpAny_Return_some h
theorem wpAny_execs_cons {st : Stmt} {rest : List Stmt} {Q : Flow → Shared → Prop} (h : wpAny M A (exec st env) (nextQ M A E env rest Q) E s) : wpAny M A (execs (st :: rest) env) Q E s := PySem.wpAny_execs_cons (wpAny_mono h (fun f _ q => by cases f <;> exact q) fun _ _ x => x)
theorem wpAny_call {f : Value} {pos : List Value} {kw : List (Str × Value)} {Q : Value → Shared → Prop} (h : codeAny M A (.call f ⟨pos, kw⟩) (resQ E Q) s) : wpAny M A (call f pos kw) Q E s := PySem.wpAny_call h
theorem UnaryOp_ {op : UnaryOp} {x : Expr} {pos : Pos} {Q : Value → Shared → Prop} (h : wpAny M A (eval x env) (unQ M A E op Q) E s) : wpAny M A (eval (.UnaryOp op x pos) env) Q E s := PyProof.Rows.UnaryOp_ h
theorem Assign_Tuple {elts : List Expr} {k : Nat} {tpos pos : Pos} {value : Expr} {Q : Flow → Shared → Prop} (h : wpAny M A (eval value env) (asgTQ M A E env elts k tpos Q) E s) (hs : swapsWithSole [.Tuple elts k tpos] value pos.line env = pure false := by rfl) (hw : swappedStores [.Tuple elts k tpos] value env = pure none := by rfl) : wpAny M A (exec (.Assign [.Tuple elts k tpos] value pos) env) Q E s := PyProof.Rows.Assign_Tuple h hs hw
end
section
variable {M : Model} {A : Around} {s : Shared}
/-- what follows gets a name -/
theorem absQ {α : Type} {m : Sem α} {Q : α → Shared → Prop} {E : Value → Shared → Prop} (h : ∀ Q' : α → Shared → Prop, (∀ v s', Q v s' → Q' v s') → wpAny M A m Q' E s) : wpAny M A m Q E s := h Q fun _ _ q => q
end
section
variable (M : Model) (A : Around) (E : Value → Shared → Prop) (env : Env)
noncomputable abbrev bodyQ (J : Nat → Shared → Prop) (n : Nat) (R : Result → Shared → Prop) : Flow → Shared → Prop := fun f s₃ => match f with
  | .next | .cont => ∃ m, m < n ∧ J m s₃
  | .brk => R (.ok .next) s₃
  | .ret v => R (.ok (.ret v)) s₃
noncomputable abbrev asnQ (target : Expr) (body : List Stmt) (B : Flow → Shared → Prop) (v : Value) : Unit → Shared → Prop := fun _ s₁' => wpAny M A (assign target env v) (fun _ s₂ => wpAny M A (execs body env) B E s₂) E s₁'
noncomputable abbrev itQ (target : Expr) (it : Value) (body orelse : List Stmt) (B : Flow → Shared → Prop) (R : Result → Shared → Prop) : Option Value → Shared → Prop := fun r s₁ => match r with
  | none => wpAny M A (execs orelse env) (fun f s₃ => R (.ok f) s₃) E s₁
  | some v => wpAny M A (letOwnedTupleGo target it v) (asnQ M A E env target body B v) E s₁
noncomputable abbrev testQ (body orelse : List Stmt) (B : Flow → Shared → Prop) (R : Result → Shared → Prop) : Bool → Shared → Prop := fun b s₂ =>
  if b = true then wpAny M A (execs body env) B E s₂ else wpAny M A (execs orelse env) (fun f s₃ => R (.ok f) s₃) E s₂
noncomputable abbrev forQ2 (target : Expr) (body orelse : List Stmt) (Q : Flow → Shared → Prop) : Value → Shared → Prop := fun it s₂ => codeAny M A (.forLoop target it body orelse env) (camQ M A E env Q) s₂
noncomputable abbrev forQ (target : Expr) (body orelse : List Stmt) (Q : Flow → Shared → Prop) : Value → Shared → Prop := fun x s₁ => wpAny M A (pyIter x) (forQ2 M A E env target body orelse Q) E s₁
end
section
variable {M : Model} {A : Around} {E : Value → Shared → Prop} {s : Shared} {env : Env}
theorem wpAny_For {target iter : Expr} {body orelse : List Stmt} {pos : Pos} {Q : Flow → Shared → Prop} (h : wpAny M A (eval iter env) (forQ M A E env target body orelse Q) E s) (hs : ∀ x, foldedSetIterable iter env x = pure x := by intro _; rfl) : wpAny M A (exec (.For target iter body orelse pos) env) Q E s :=
  PySem.wpAny_For (wpAny_mono h (fun _ _ q => wpAny_mono q (fun _ _ q => codeAny_mono q fun r _ q => by cases r <;> exact q) fun _ _ x => x) fun _ _ x => x) hs
theorem wpAny_While {test : Expr} {body orelse : List Stmt} {pos : Pos} {Q : Flow → Shared → Prop} (h : codeAny M A (.whileLoop test body orelse env) (camQ M A E env Q) s) : wpAny M A (exec (.While test body orelse pos) env) Q E s :=
  PySem.wpAny_While (codeAny_mono h fun r _ q => by cases r <;> exact q)
end
section
variable {prog : Program} {w : World} {A : Around} {s : Shared} {R : Result → Shared → Prop} {env : Env}
/-- a for loop that raises nothing; what holds between the turns gets a name -/
theorem forLoopJ {target : Expr} {it : Value} {body orelse : List Stmt} (I : Nat → Shared → Prop)
    (turn : ∀ (J : Nat → Shared → Prop), (∀ n s, I n s → J n s) → ∀ (E : Value → Shared → Prop) (n : Nat) (s : Shared), I n s → wpAny (model prog w) A (pyNext it) (itQ (model prog w) A E env target it body orelse (bodyQ J n R) R) E s)
    (n : Nat) (h : I n s) : codeAny (model prog w) A (.forLoop target it body orelse env) R s :=
  codeAny_forLoop_any I (fun n s hI => wpAny_mono (turn I (fun _ _ h => h) _ n s hI) (fun r s q => by
    cases r with
    | none => exact q
    | some v => exact wpAny_mono q (fun _ _ q => wpAny_mono q (fun _ _ q => wpAny_mono q (fun f _ q => by cases f <;> exact q) fun _ _ x => x) fun _ _ x => x) fun _ _ x => x) fun _ _ x => x) n h
theorem whileLoopJ {test : Expr} {body orelse : List Stmt} (I : Nat → Shared → Prop)
    (turn : ∀ (J : Nat → Shared → Prop), (∀ n s, I n s → J n s) → ∀ (E : Value → Shared → Prop) (n : Nat) (s : Shared), I n s → wpAny (model prog w) A (isTrue test env (eval test env)) (testQ (model prog w) A E env body orelse (bodyQ J n R) R) E s)
    (n : Nat) (h : I n s) : codeAny (model prog w) A (.whileLoop test body orelse env) R s :=
  codeAny_whileLoop I (fun n s hI => wpAny_mono (turn I (fun _ _ h => h) _ n s hI) (fun b s q => by
    cases b with
    | false => exact q
    | true => exact wpAny_mono q (fun f _ q => by cases f <;> exact q) fun _ _ x => x) fun _ _ x => x) n h
end
noncomputable abbrev KF (w : World) : Frag := kf w.params
/-! ### zones, ledgers -/
noncomputable abbrev Zone := Addr → Option Obj
noncomputable def Zone.le (Z Z' : Zone) : Prop := ∀ b o, Z b = some o → Z' b = some o
noncomputable def Zone.on (Z : Zone) (h : Heap) : Prop := ∀ b o, Z b = some o → h.get? b = some o
noncomputable def Zone.put (Z : Zone) (a : Addr) (o : Obj) : Zone := fun b => if b = a then some o else Z b
theorem Zone.le.refl (Z : Zone) : Z.le Z := fun _ _ e => e
theorem Zone.le.trans {Z Z' Z'' : Zone} (x : Z.le Z') (y : Z'.le Z'') : Z.le Z'' := fun b o e => y b o (x b o e)
theorem Zone.put_le {Z : Zone} {a : Addr} (o : Obj) (h : Z a = none) : Z.le (Z.put a o) := fun b o' e => by
  unfold Zone.put
  by_cases hb : b = a
  · rw [hb, h] at e; cases e
  · rw [if_neg hb]; exact e
theorem Zone.put_self {Z : Zone} {a : Addr} {o : Obj} : (Z.put a o) a = some o := if_pos rfl
structure Base (w : World) (H : Heap) : Prop where
  k : (KF w).In H
  lim : H.NoLimit
  g : ∃ mg, H.Ns mainGlobals mg
  b : ∃ mb, H.Ns builtinsNs mb ∧ ∀ x : Str, x ≠ "__name__" → mb x = bootBuiltins x
  nod : ∃ mc, H.Ns cStatics mc ∧ mc "sys.int_max_str_digits" = none
/-- where a function's run began: the heap of the law's start, the state at the call, what it may turn, the zone then -/
structure Ctx0 where
  H : Heap
  sc : Shared
  T : List Addr
  Z₀ : Zone
structure Z0 (w : World) (c : Ctx0) (G : Array GenState) (Z : Zone) (s : Shared) : Prop where
  base : Base w c.H
  zb : ∀ b o, c.H.get? b = some o → Z b = some o
  z : Z.on s.heap
  zle : c.Z₀.le Z
  zf : ∀ b o, c.sc.heap.get? b = some o → Z b = c.Z₀ b
  keep : ∀ b o, b ∉ c.T → c.sc.heap.get? b = some o → s.heap.get? b = some o
  tal : ∀ a ∈ c.T, ∃ b o, a ≤ b ∧ s.heap.get? b = some o
  os : s.os = c.sc.os
  gens : s.gens = G
  bare : AllBare G
structure S (w : World) (c : Ctx0) (G : Array GenState) (Z : Zone) (ns : List (Addr × (Str → Option Value))) (l : List (Addr × Obj)) (s : Shared) : Prop extends Z0 w c G Z s where
  nss : ∀ p ∈ ns, s.heap.Ns p.1 p.2
  own : ∀ p ∈ l, s.heap.get? p.1 = some p.2
  zo : ∀ a ∈ ns.map (·.1) ++ l.map (·.1), Z a = none
  nd : (ns.map (·.1) ++ l.map (·.1)).Nodup
  lo : ∀ a ∈ ns.map (·.1) ++ l.map (·.1), c.sc.heap.get? a = none ∨ a ∈ c.T
inductive Upd (a : Addr) (o o' : Obj) : List (Addr × Obj) → List (Addr × Obj) → Prop
  | head {r} : Upd a o o' ((a, o) :: r) ((a, o') :: r)
  | tail {p r r'} : Upd a o o' r r' → Upd a o o' (p :: r) (p :: r')
theorem Upd.keys {a : Addr} {o o' : Obj} {l l' : List (Addr × Obj)} (u : Upd a o o' l l') : l'.map (·.1) = l.map (·.1) := by
  induction u with
  | head => rfl
  | tail _ ih => simp [ih]
theorem Upd.mem {a : Addr} {o o' : Obj} {l l' : List (Addr × Obj)} (u : Upd a o o' l l') : (a, o) ∈ l := by
  induction u with
  | head => exact .head _
  | tail _ ih => exact .tail _ ih
theorem Upd.of_nd {a : Addr} {o o' : Obj} {l l' : List (Addr × Obj)} (u : Upd a o o' l l') (nd : (l.map (·.1)).Nodup) : ∀ p ∈ l', p = (a, o') ∨ (p ∈ l ∧ p.1 ≠ a) := by
  induction u with
  | @head r =>
    intro p hp
    rcases List.mem_cons.mp hp with rfl | hp
    · exact .inl rfl
    · refine .inr ⟨.tail _ hp, fun e => ?_⟩
      have := (List.nodup_cons.mp nd).1
      exact this (e ▸ List.mem_map_of_mem (f := (·.1)) hp)
  | @tail q r r' u ih =>
    intro p hp
    have nd' := List.nodup_cons.mp nd
    rcases List.mem_cons.mp hp with hq | hp
    · refine .inr ⟨hq ▸ .head _, fun e => nd'.1 ?_⟩
      show q.1 ∈ _
      rw [← hq, e]; exact List.mem_map_of_mem (f := (·.1)) u.mem
    · exact (ih nd'.2 p hp).imp id fun h => ⟨.tail _ h.1, h.2⟩
section
variable {w : World} {c : Ctx0} {G : Array GenState} {Z : Zone} {ns : List (Addr × (Str → Option Value))} {l : List (Addr × Obj)} {s : Shared}
theorem S.alive (h : S w c G Z ns l s) : ∀ a ∈ ns.map (·.1) ++ l.map (·.1), ∃ o, s.heap.get? a = some o := fun a ha => by
  rcases List.mem_append.mp ha with q | q
  · obtain ⟨p, hp, rfl⟩ := List.mem_map.mp q; obtain ⟨o, _, _, e, _⟩ := h.nss p hp; exact ⟨o, e⟩
  · obtain ⟨p, hp, rfl⟩ := List.mem_map.mp q; exact ⟨_, h.own p hp⟩
theorem S.lt (h : S w c G Z ns l s) : ∀ a ∈ ns.map (·.1) ++ l.map (·.1), a < s.heap.objs.size := fun a ha => let ⟨_, e⟩ := h.alive a ha; Heap.lt_size e
theorem Z0.new (h : Z0 w c G Z s) : c.sc.heap.get? s.heap.objs.size = none := by
  cases q : c.sc.heap.get? s.heap.objs.size with
  | none => rfl
  | some o =>
    by_cases hT : s.heap.objs.size ∈ c.T
    · obtain ⟨b, o, hb, e⟩ := h.tal _ hT; exact absurd (Heap.lt_size e) (Nat.not_lt.mpr hb)
    · exact absurd (Heap.lt_size (h.keep _ _ hT q)) (Nat.lt_irrefl _)
theorem Z0.newZ (h : Z0 w c G Z s) : Z s.heap.objs.size = none := by
  cases q : Z s.heap.objs.size with
  | none => rfl
  | some o' => exact absurd (Heap.lt_size (h.z _ _ q)) (Nat.lt_irrefl _)
theorem S.toks (h : S w c G Z ns l s) (t : Nat) : S w c G Z ns l { s with toks := t } :=
  ⟨⟨h.base, h.zb, h.z, h.zle, h.zf, h.keep, h.tal, h.os, h.gens, h.bare⟩, h.nss, h.own, h.zo, h.nd, h.lo⟩
/-- a heap that keeps all -/
theorem S.heapK (h : S w c G Z ns l s) {h' : Heap} (hk : ∀ b o, s.heap.get? b = some o → h'.get? b = some o) : S w c G Z ns l { s with heap := h' } :=
  ⟨⟨h.base, h.zb, fun b o e => hk b o (h.z b o e), h.zle, h.zf, fun b o q e => hk b o (h.keep b o q e), fun a ha => let ⟨b, o, hb, e⟩ := h.tal a ha; ⟨b, o, hb, hk b o e⟩, h.os, h.gens, h.bare⟩,
    fun p hp => (h.nss p hp).keeps hk, fun p hp => hk _ _ (h.own p hp), h.zo, h.nd, h.lo⟩
theorem S.push (h : S w c G Z ns l s) (o : Obj) (hf : o.isFreed = false) : S w c G Z ns ((s.heap.objs.size, o) :: l) { s with heap := s.heap.push o } := by
  have hk : ∀ b o', s.heap.get? b = some o' → (s.heap.push o).get? b = some o' := fun b o' e => Heap.get?_push_of_some _ e
  have h1 := h.heapK hk
  have hz : Z s.heap.objs.size = none := h.newZ
  refine ⟨h1.toZ0, h1.nss, ?_, ?_, ?_, ?_⟩
  · intro p hp
    rcases List.mem_cons.mp hp with rfl | hp
    · exact Heap.get?_push_size _ hf
    · exact h1.own p hp
  · intro a ha
    simp only [List.map_cons, List.mem_append, List.mem_cons] at ha
    rcases ha with q | rfl | q
    · exact h.zo a (List.mem_append_left _ q)
    · exact hz
    · exact h.zo a (List.mem_append_right _ q)
  · have hn := h.nd
    rw [List.nodup_append] at hn ⊢
    have hlt := h.lt
    refine ⟨hn.1, ?_, ?_⟩
    · rw [List.map_cons, List.nodup_cons]
      exact ⟨fun q => absurd (hlt _ (List.mem_append_right _ q)) (Nat.lt_irrefl _), hn.2.1⟩
    · intro a ha b hb
      rcases List.mem_cons.mp hb with rfl | hb
      · intro e
        exact absurd (hlt a (List.mem_append_left _ ha)) (by rw [e]; exact Nat.lt_irrefl _)
      · exact hn.2.2 a ha b hb
  · intro a ha
    simp only [List.map_cons, List.mem_append, List.mem_cons] at ha
    rcases ha with q | rfl | q
    · exact h.lo a (List.mem_append_left _ q)
    · exact .inl h.new
    · exact h.lo a (List.mem_append_right _ q)
/-- one own object turned -/
theorem S.sameBut (h : S w c G Z ns l s) {a : Addr} {o o' : Obj} {l' : List (Addr × Obj)} {h' : Heap} (u : Upd a o o' l l') (hs : Heap.SameBut a s.heap h') (ha : h'.get? a = some o') : S w c G Z ns l' { s with heap := h' } := by
  have hm : a ∈ ns.map (·.1) ++ l.map (·.1) := List.mem_append_right _ (List.mem_map_of_mem (f := (·.1)) u.mem)
  have hk : ∀ b, b ≠ a → ∀ o, s.heap.get? b = some o → h'.get? b = some o := fun b hb o e => hs.extBut b o hb e
  have hzn := h.zo a hm
  refine ⟨⟨h.base, h.zb, fun b o e => ?_, h.zle, h.zf, fun b o q e => ?_, fun b hb => ?_, h.os, h.gens, h.bare⟩, ?_, ?_, ?_, ?_, ?_⟩
  · exact hk b (fun e' => by rw [e', hzn] at e; cases e) o (h.z b o e)
  · refine hk b (fun e' => ?_) o (h.keep b o q e)
    rcases h.lo a hm with z | z
    · rw [e', z] at e; cases e
    · exact q (e' ▸ z)
  · obtain ⟨d, ob, hd, e⟩ := h.tal b hb
    by_cases q : d = a
    · exact ⟨d, o', hd, q ▸ ha⟩
    · exact ⟨d, ob, hd, hk d q ob e⟩
  · intro p hp
    refine (h.nss p hp).sameBut hs fun e => ?_
    have := (List.nodup_append.mp h.nd).2.2 p.1 (List.mem_map_of_mem (f := (·.1)) hp) a (List.mem_map_of_mem (f := (·.1)) u.mem)
    exact this e
  · intro p hp
    rcases u.of_nd (List.nodup_append.mp h.nd).2.1 p hp with rfl | ⟨q, e⟩
    · exact ha
    · exact hk _ e _ (h.own p q)
  · rw [u.keys]; exact h.zo
  · rw [u.keys]; exact h.nd
  · rw [u.keys]; exact h.lo
theorem S.upd (h : S w c G Z ns l s) {a : Addr} {o o' : Obj} {l' : List (Addr × Obj)} {f : Obj → Obj} (u : Upd a o o' l l') (e : f o = o') (hf : o'.isFreed = false) : S w c G Z ns l' { s with heap := s.heap.update a f } :=
  h.sameBut u (Heap.SameBut.update ..) (by rw [← e]; exact Heap.get?_update_self f (h.own _ u.mem) (e ▸ hf))
/-- the head namespace turned -/
theorem S.nsSet {L : Addr} {m m' : Str → Option Value} {r : List (Addr × (Str → Option Value))} (h : S w c G Z ((L, m) :: r) l s) {h' : Heap} (hn : h'.Ns L m') (hs : Heap.SameBut L s.heap h') : S w c G Z ((L, m') :: r) l { s with heap := h' } := by
  have hm : L ∈ ((L, m) :: r).map (·.1) ++ l.map (·.1) := List.mem_append_left _ (.head _)
  have hk : ∀ b, b ≠ L → ∀ o, s.heap.get? b = some o → h'.get? b = some o := fun b hb o e => hs.extBut b o hb e
  have hzn := h.zo L hm
  have hnd := h.nd
  simp only [List.map_cons, List.cons_append, List.nodup_cons] at hnd
  refine ⟨⟨h.base, h.zb, fun b o e => ?_, h.zle, h.zf, fun b o q e => ?_, fun b hb => ?_, h.os, h.gens, h.bare⟩, ?_, ?_, h.zo, h.nd, h.lo⟩
  · exact hk b (fun e' => by rw [e', hzn] at e; cases e) o (h.z b o e)
  · refine hk b (fun e' => ?_) o (h.keep b o q e)
    rcases h.lo L hm with z | z
    · rw [e', z] at e; cases e
    · exact q (e' ▸ z)
  · obtain ⟨d, ob, hd, e⟩ := h.tal b hb
    by_cases q : d = L
    · obtain ⟨ob', _, _, e', _⟩ := hn; exact ⟨d, ob', hd, q ▸ e'⟩
    · exact ⟨d, ob, hd, hk d q ob e⟩
  · intro p hp
    rcases List.mem_cons.mp hp with rfl | hp
    · exact hn
    · refine (h.nss p (.tail _ hp)).sameBut hs fun e => hnd.1 (List.mem_append_left _ ?_)
      rw [← e]; exact List.mem_map_of_mem (f := (·.1)) hp
  · intro p hp
    refine hk _ (fun e => hnd.1 (List.mem_append_right _ ?_)) _ (h.own p hp)
    rw [← e]; exact List.mem_map_of_mem (f := (·.1)) hp
/-- own objects turned, others made -/
theorem S.chg (h : S w c G Z ns l s) {h' : Heap} {l' : List (Addr × Obj)} (D : List Addr) (tk : Nat) (hD : ∀ a ∈ D, a ∈ l.map (·.1)) (hk : ∀ b o, b ∉ D → s.heap.get? b = some o → h'.get? b = some o)
    (hl : ∀ p ∈ l', h'.get? p.1 = some p.2) (hn : ∀ p ∈ l', p.1 ∈ l.map (·.1) ∨ s.heap.get? p.1 = none) (hnd : (l'.map (·.1)).Nodup) (hal : ∀ a ∈ D, ∃ o, h'.get? a = some o) : S w c G Z ns l' { s with heap := h', toks := tk } := by
  have hzD : ∀ a ∈ D, Z a = none := fun a ha => h.zo a (List.mem_append_right _ (hD a ha))
  have hnl := List.nodup_append.mp h.nd
  refine ⟨⟨h.base, h.zb, fun b o e => hk b o (fun q => by rw [hzD b q] at e; cases e) (h.z b o e), h.zle, h.zf, fun b o q e => ?_, fun b hb => ?_, h.os, h.gens, h.bare⟩, ?_, hl, ?_, ?_, ?_⟩
  · refine hk b o (fun hq => ?_) (h.keep b o q e)
    rcases h.lo b (List.mem_append_right _ (hD b hq)) with z | z
    · rw [z] at e; cases e
    · exact q z
  · obtain ⟨d, ob, hd, e⟩ := h.tal b hb
    by_cases q : d ∈ D
    · obtain ⟨o, e'⟩ := hal d q; exact ⟨d, o, hd, e'⟩
    · exact ⟨d, ob, hd, hk d ob q e⟩
  · intro p hp
    exact (h.nss p hp).at' fun o e => hk _ o (fun q => hnl.2.2 p.1 (List.mem_map_of_mem (f := (·.1)) hp) p.1 (hD _ q) rfl) e
  · intro a ha
    rcases List.mem_append.mp ha with q | q
    · exact h.zo a (List.mem_append_left _ q)
    · obtain ⟨p, hp, rfl⟩ := List.mem_map.mp q
      rcases hn p hp with z | z
      · exact h.zo _ (List.mem_append_right _ z)
      · cases e : Z p.1 with
        | none => rfl
        | some o => rw [h.z _ _ e] at z; cases z
  · refine List.nodup_append.mpr ⟨hnl.1, hnd, fun a ha b hb e => ?_⟩
    obtain ⟨p, hp, rfl⟩ := List.mem_map.mp hb
    rcases hn p hp with z | z
    · exact hnl.2.2 a ha _ z e
    · obtain ⟨o, e'⟩ := h.alive a (List.mem_append_left _ ha)
      rw [e, z] at e'; cases e'
  · intro a ha
    rcases List.mem_append.mp ha with q | q
    · exact h.lo a (List.mem_append_left _ q)
    · obtain ⟨p, hp, rfl⟩ := List.mem_map.mp q
      rcases hn p hp with z | z
      · exact h.lo _ (List.mem_append_right _ z)
      · by_cases hT : p.1 ∈ c.T
        · exact .inr hT
        · refine .inl ?_
          cases e : c.sc.heap.get? p.1 with
          | none => rfl
          | some o => rw [h.keep _ _ hT e] at z; cases z
theorem S.setG (h : S w c G Z ns l s) {G' : Array GenState} (hb : AllBare G') : S w c G' Z ns l { s with gens := G' } :=
  ⟨⟨h.base, h.zb, h.z, h.zle, h.zf, h.keep, h.tal, h.os, rfl, hb⟩, h.nss, h.own, h.zo, h.nd, h.lo⟩
theorem S.same (h : S w c G Z ns l s) {s' : Shared} (h1 : s'.heap = s.heap) (h2 : s'.gens = s.gens) (h3 : s'.os = s.os) : S w c G Z ns l s' := by
  obtain ⟨hp, g, d, t, o⟩ := s
  obtain ⟨hp', g', d', t', o'⟩ := s'
  simp only at h1 h2 h3
  subst h1 h2 h3
  exact ⟨⟨h.base, h.zb, h.z, h.zle, h.zf, h.keep, h.tal, h.os, h.gens, h.bare⟩, h.nss, h.own, h.zo, h.nd, h.lo⟩
/-- a namespace is made -/
theorem S.newNs {p : Addr × (Str → Option Value)} {r : List (Addr × (Str → Option Value))} (h : S w c G Z (p :: r) l s) {h' : Heap} {m : Str → Option Value} (hn : h'.Ns s.heap.objs.size m) (hk : ∀ b o, s.heap.get? b = some o → h'.get? b = some o) (tk : Nat) :
    S w c G Z (p :: (s.heap.objs.size, m) :: r) l { s with heap := h', toks := tk } := by
  have h1 := (h.heapK hk).toks tk
  have hlt := h.lt
  refine ⟨h1.toZ0, ?_, h1.own, ?_, ?_, ?_⟩
  · intro q hq
    rcases List.mem_cons.mp hq with rfl | hq
    · exact h1.nss _ (.head _)
    · rcases List.mem_cons.mp hq with rfl | hq
      · exact hn
      · exact h1.nss _ (.tail _ hq)
  · intro a ha
    simp only [List.map_cons, List.cons_append, List.mem_cons] at ha
    rcases ha with rfl | rfl | q
    · exact h.zo _ (.head _)
    · exact h.newZ
    · exact h.zo a (.tail _ q)
  · have hd := h.nd
    have h1 := hlt p.1 (.head _)
    have h2 : s.heap.objs.size ∉ r.map (·.1) ++ l.map (·.1) := fun q => absurd (hlt _ (.tail _ q)) (Nat.lt_irrefl _)
    simp only [List.map_cons, List.cons_append, List.nodup_cons, List.mem_cons, not_or] at hd ⊢
    exact ⟨⟨Nat.ne_of_lt h1, hd.1⟩, h2, hd.2⟩
  · intro a ha
    simp only [List.map_cons, List.cons_append, List.mem_cons] at ha
    rcases ha with rfl | rfl | q
    · exact h.lo _ (.head _)
    · exact .inl h.new
    · exact h.lo a (.tail _ q)
/-- an object that stands, new since the start and nobody's, is frozen -/
theorem S.adopt {a : Addr} {o : Obj} (h : S w c G Z ns l s) (ho : s.heap.get? a = some o) (hz : Z a = none) (hc : c.sc.heap.get? a = none) (hn : a ∉ ns.map (·.1) ++ l.map (·.1)) : S w c G (Z.put a o) ns l s := by
  refine ⟨⟨h.base, fun b o' e => Zone.put_le o hz b o' (h.zb b o' e), fun b o' e => ?_, h.zle.trans (Zone.put_le o hz), fun b o' hb => ?_, h.keep, h.tal, h.os, h.gens, h.bare⟩, h.nss, h.own, fun b hb => ?_, h.nd, h.lo⟩
  · unfold Zone.put at e
    by_cases q : b = a
    · rw [if_pos q] at e; cases e; rw [q]; exact ho
    · rw [if_neg q] at e; exact h.z b o' e
  · show (if b = a then some o else Z b) = _
    rw [if_neg (fun e => by rw [e, hc] at hb; cases hb)]; exact h.zf b o' hb
  · show (if b = a then some o else Z b) = none
    rw [if_neg (fun e : b = a => hn (e ▸ hb))]; exact h.zo b hb
/-- a generator's own things turned -/
theorem S.gen {p : Addr × (Str → Option Value)} {r : List (Addr × (Str → Option Value))} {L : Addr} {m m' : Str → Option Value} {gl gl' : List (Addr × Obj)} (h : S w c G Z (p :: (L, m) :: r) (l ++ gl) s) (hT : c.T = []) {h' : Heap} (D : List Addr) (tk : Nat)
    (hk : ∀ b o, b ∉ L :: D → s.heap.get? b = some o → h'.get? b = some o) (hD : ∀ a ∈ D, a ∈ gl.map (·.1) ∨ s.heap.get? a = none) (hn : h'.Ns L m') (hg : ∀ q ∈ gl', h'.get? q.1 = some q.2) (hsub : ∀ a ∈ gl'.map (·.1), a ∈ D) (hnd : (gl'.map (·.1)).Nodup) :
    S w c G Z (p :: (L, m') :: r) (l ++ gl') { s with heap := h', toks := tk } := by
  have hd := h.nd
  simp only [List.map_cons, List.map_append, List.cons_append, List.nodup_cons, List.mem_cons, List.mem_append, not_or, List.nodup_append] at hd
  have hoff : ∀ b, (∃ o, s.heap.get? b = some o) → b ≠ L → b ∉ gl.map (·.1) → b ∉ L :: D := fun b ⟨o, e⟩ h1 h2 q => by
    rcases List.mem_cons.mp q with q | q
    · exact h1 q
    · rcases hD b q with z | z
      · exact h2 z
      · rw [e] at z; cases z
  have hzoff : ∀ b o, Z b = some o → b ∉ L :: D := fun b o e => hoff b ⟨o, h.z b o e⟩ (fun q => by rw [q, h.zo L (.tail _ (.head _))] at e; cases e) fun q => by
    rw [h.zo b (List.mem_append_right _ (by rw [List.map_append]; exact List.mem_append_right _ q))] at e; cases e
  have hown : ∀ a ∈ gl'.map (·.1), a ∈ gl.map (·.1) ∨ s.heap.get? a = none := fun a ha => hD a (hsub a ha)
  refine ⟨⟨h.base, h.zb, fun b o e => hk b o (hzoff b o e) (h.z b o e), h.zle, h.zf, fun b o q e => ?_, fun a ha => (by rw [hT] at ha; cases ha), h.os, h.gens, h.bare⟩, ?_, ?_, ?_, ?_, ?_⟩
  · have e' := h.keep b o q e
    refine hk b o (hoff b ⟨o, e'⟩ (fun z => ?_) fun z => ?_) e'
    · rcases h.lo L (.tail _ (.head _)) with y | y
      · rw [z, y] at e; cases e
      · rw [hT] at y; cases y
    · rcases h.lo b (List.mem_append_right _ (by rw [List.map_append]; exact List.mem_append_right _ z)) with y | y
      · rw [y] at e; cases e
      · rw [hT] at y; cases y
  · intro q hq
    have alive : ∀ q ∈ (p :: (L, m) :: r), q.1 ≠ L → q.1 ∉ gl.map (·.1) → h'.Ns q.1 q.2 := fun q hq h1 h2 => by
      obtain ⟨o, es, ep, e, rest⟩ := h.nss q hq
      exact ⟨o, es, ep, hk _ _ (hoff _ ⟨o, e⟩ h1 h2) e, rest⟩
    rcases List.mem_cons.mp hq with rfl | hq
    · exact alive q (.head _) hd.1.1 fun z => hd.1.2.2.2 z
    · rcases List.mem_cons.mp hq with rfl | hq
      · exact hn
      · refine alive q (.tail _ (.tail _ hq)) (fun z => hd.2.1.1 (z ▸ List.mem_map_of_mem (f := (·.1)) hq)) fun z => ?_
        exact hd.2.2.2.2 q.1 (List.mem_map_of_mem (f := (·.1)) hq) q.1 (.inr z) rfl
  · intro q hq
    rcases List.mem_append.mp hq with hq | hq
    · have e := h.own q (List.mem_append_left _ hq)
      refine hk _ _ (hoff _ ⟨_, e⟩ (fun z => hd.2.1.2.1 (z ▸ List.mem_map_of_mem (f := (·.1)) hq)) fun z => ?_) e
      exact hd.2.2.2.1.2.2 q.1 (List.mem_map_of_mem (f := (·.1)) hq) q.1 z rfl
    · exact hg q hq
  · intro a ha
    simp only [List.map_cons, List.map_append, List.cons_append, List.mem_cons, List.mem_append] at ha
    rcases ha with rfl | rfl | q | q | q
    · exact h.zo _ (.head _)
    · exact h.zo _ (.tail _ (.head _))
    · exact h.zo a (by simp only [List.map_cons, List.map_append, List.cons_append, List.mem_cons, List.mem_append]; exact .inr (.inr (.inl q)))
    · exact h.zo a (by simp only [List.map_cons, List.map_append, List.cons_append, List.mem_cons, List.mem_append]; exact .inr (.inr (.inr (.inl q))))
    · rcases hown a q with z | z
      · exact h.zo a (by simp only [List.map_cons, List.map_append, List.cons_append, List.mem_cons, List.mem_append]; exact .inr (.inr (.inr (.inr z))))
      · cases e : Z a with
        | none => rfl
        | some o => rw [h.z a o e] at z; cases z
  · have fr : ∀ a ∈ gl'.map (·.1), ∀ b, (∃ o, s.heap.get? b = some o) → b ∉ gl.map (·.1) → b ≠ a := fun a ha b ⟨o, e⟩ hb q => by
      rcases hown a ha with z | z
      · exact hb (q ▸ z)
      · rw [← q, e] at z; cases z
    have al : ∀ b, b ∈ (p :: (L, m) :: r).map (·.1) ++ (l ++ gl).map (·.1) → ∃ o, s.heap.get? b = some o := h.alive
    simp only [List.map_cons, List.map_append, List.cons_append, List.nodup_cons, List.mem_cons, List.mem_append, not_or, List.nodup_append] at al ⊢
    refine ⟨⟨hd.1.1, hd.1.2.1, hd.1.2.2.1, fun q => fr _ q p.1 (al _ (.inl rfl)) hd.1.2.2.2 rfl⟩, ⟨hd.2.1.1, hd.2.1.2.1, fun q => fr _ q L (al _ (.inr (.inl rfl))) hd.2.1.2.2 rfl⟩, hd.2.2.1, ⟨hd.2.2.2.1.1, hnd, fun a ha b hb => fr b hb a (al _ (.inr (.inr (.inr (.inl ha))))) fun z => hd.2.2.2.1.2.2 a ha a z rfl⟩, fun a ha b hb => ?_⟩
    rcases hb with hb | hb
    · exact hd.2.2.2.2 a ha b (.inl hb)
    · exact fr b hb a (al _ (.inr (.inr (.inl ha)))) fun z => hd.2.2.2.2 a ha a (.inr z) rfl
  · intro a ha
    cases e : c.sc.heap.get? a with
    | none => exact .inl rfl
    | some o =>
      exfalso
      have e' := h.keep a o (by rw [hT]; exact fun q => nomatch q) e
      simp only [List.map_cons, List.map_append, List.cons_append, List.mem_cons, List.mem_append] at ha
      have no : a ∈ (p :: (L, m) :: r).map (·.1) ++ (l ++ gl).map (·.1) → False := fun q => by
        rcases h.lo a q with y | y
        · rw [y] at e; cases e
        · rw [hT] at y; cases y
      simp only [List.map_cons, List.map_append, List.cons_append, List.mem_cons, List.mem_append] at no
      rcases ha with q | q | q | q | q
      · exact no (.inl q)
      · exact no (.inr (.inl q))
      · exact no (.inr (.inr (.inl q)))
      · exact no (.inr (.inr (.inr (.inl q))))
      · rcases hown a q with z | z
        · exact no (.inr (.inr (.inr (.inr z))))
        · rw [e'] at z; cases z
/-- a generator's own things are gone -/
theorem S.lose {p : Addr × (Str → Option Value)} {r : List (Addr × (Str → Option Value))} {L : Addr} {m : Str → Option Value} {gl : List (Addr × Obj)} (h : S w c G Z (p :: (L, m) :: r) (l ++ gl) s) (hT : c.T = []) {h' : Heap} (D : List Addr) (tk : Nat)
    (hk : ∀ b o, b ∉ L :: D → s.heap.get? b = some o → h'.get? b = some o) (hD : ∀ a ∈ D, a ∈ gl.map (·.1) ∨ s.heap.get? a = none) : S w c G Z (p :: r) l { s with heap := h', toks := tk } := by
  have hd := h.nd
  simp only [List.map_cons, List.map_append, List.cons_append, List.nodup_cons, List.mem_cons, List.mem_append, not_or, List.nodup_append] at hd
  have hoff : ∀ b, (∃ o, s.heap.get? b = some o) → b ≠ L → b ∉ gl.map (·.1) → b ∉ L :: D := fun b ⟨o, e⟩ h1 h2 q => by
    rcases List.mem_cons.mp q with q | q
    · exact h1 q
    · rcases hD b q with z | z
      · exact h2 z
      · rw [e] at z; cases z
  have hzoff : ∀ b o, Z b = some o → b ∉ L :: D := fun b o e => hoff b ⟨o, h.z b o e⟩ (fun q => by rw [q, h.zo L (.tail _ (.head _))] at e; cases e) fun q => by
    rw [h.zo b (List.mem_append_right _ (by rw [List.map_append]; exact List.mem_append_right _ q))] at e; cases e
  have hsub : ∀ a ∈ (p :: r).map (·.1) ++ l.map (·.1), a ∈ (p :: (L, m) :: r).map (·.1) ++ (l ++ gl).map (·.1) := fun a ha => by
    simp only [List.map_cons, List.map_append, List.cons_append, List.mem_cons, List.mem_append] at ha ⊢
    rcases ha with q | q | q
    · exact .inl q
    · exact .inr (.inr (.inl q))
    · exact .inr (.inr (.inr (.inl q)))
  refine ⟨⟨h.base, h.zb, fun b o e => hk b o (hzoff b o e) (h.z b o e), h.zle, h.zf, fun b o q e => ?_, fun a ha => (by rw [hT] at ha; cases ha), h.os, h.gens, h.bare⟩, ?_, ?_, fun a ha => h.zo a (hsub a ha), ?_, fun a ha => h.lo a (hsub a ha)⟩
  · have e' := h.keep b o q e
    refine hk b o (hoff b ⟨o, e'⟩ (fun z => ?_) fun z => ?_) e'
    · rcases h.lo L (.tail _ (.head _)) with y | y
      · rw [z, y] at e; cases e
      · rw [hT] at y; cases y
    · rcases h.lo b (List.mem_append_right _ (by rw [List.map_append]; exact List.mem_append_right _ z)) with y | y
      · rw [y] at e; cases e
      · rw [hT] at y; cases y
  · intro q hq
    have alive : ∀ q ∈ (p :: (L, m) :: r), q.1 ≠ L → q.1 ∉ gl.map (·.1) → h'.Ns q.1 q.2 := fun q hq h1 h2 => by
      obtain ⟨o, es, ep, e, rest⟩ := h.nss q hq
      exact ⟨o, es, ep, hk _ _ (hoff _ ⟨o, e⟩ h1 h2) e, rest⟩
    rcases List.mem_cons.mp hq with rfl | hq
    · exact alive q (.head _) hd.1.1 fun z => hd.1.2.2.2 z
    · refine alive q (.tail _ (.tail _ hq)) (fun z => hd.2.1.1 (z ▸ List.mem_map_of_mem (f := (·.1)) hq)) fun z => ?_
      exact hd.2.2.2.2 q.1 (List.mem_map_of_mem (f := (·.1)) hq) q.1 (.inr z) rfl
  · intro q hq
    have e := h.own q (List.mem_append_left _ hq)
    refine hk _ _ (hoff _ ⟨_, e⟩ (fun z => hd.2.1.2.1 (z ▸ List.mem_map_of_mem (f := (·.1)) hq)) fun z => ?_) e
    exact hd.2.2.2.1.2.2 q.1 (List.mem_map_of_mem (f := (·.1)) hq) q.1 z rfl
  · simp only [List.map_cons, List.cons_append, List.nodup_cons, List.mem_append, not_or, List.nodup_append]
    exact ⟨⟨hd.1.2.1, hd.1.2.2.1⟩, hd.2.2.1, hd.2.2.2.1.1, fun a ha b hb => hd.2.2.2.2 a ha b (.inl hb)⟩
/-- fewer own things known -/
theorem S.sub (h : S w c G Z ns l s) {ns' : List (Addr × (Str → Option Value))} {l' : List (Addr × Obj)} (h1 : ns'.Sublist ns) (h2 : l'.Sublist l) : S w c G Z ns' l' s := by
  have hs : (ns'.map (·.1) ++ l'.map (·.1)).Sublist (ns.map (·.1) ++ l.map (·.1)) := (h1.map _).append (h2.map _)
  exact ⟨h.toZ0, fun p hp => h.nss p (h1.subset hp), fun p hp => h.own p (h2.subset hp), fun a ha => h.zo a (hs.subset ha), hs.nodup h.nd, fun a ha => h.lo a (hs.subset ha)⟩
theorem S.perm (h : S w c G Z ns l s) {l' : List (Addr × Obj)} (p : l'.Perm l) : S w c G Z ns l' s := by
  have hs : (ns.map (·.1) ++ l'.map (·.1)).Perm (ns.map (·.1) ++ l.map (·.1)) := List.Perm.append_left _ (p.map _)
  exact ⟨h.toZ0, h.nss, fun q hq => h.own q (p.subset hq), fun a ha => h.zo a (hs.subset ha), hs.nodup_iff.mpr h.nd, fun a ha => h.lo a (hs.subset ha)⟩
/-- an own object, made since the start, becomes a frozen one -/
theorem S.freeze {a : Addr} {o : Obj} (h : S w c G Z ns ((a, o) :: l) s) (ha : c.sc.heap.get? a = none) : S w c G (Z.put a o) ns l s := by
  have hm : a ∈ ns.map (·.1) ++ ((a, o) :: l).map (·.1) := List.mem_append_right _ (.head _)
  have hz := h.zo a hm
  have hn := h.nd
  rw [List.nodup_append] at hn
  have hna : ∀ b ∈ ns.map (·.1) ++ l.map (·.1), b ≠ a := fun b hb e => by
    rcases List.mem_append.mp hb with q | q
    · exact hn.2.2 b q a (.head _) e
    · exact (List.nodup_cons.mp hn.2.1).1 (e ▸ q)
  refine ⟨⟨h.base, fun b o' e => Zone.put_le o hz b o' (h.zb b o' e), fun b o' e => ?_, h.zle.trans (Zone.put_le o hz), fun b o' hb => ?_, h.keep, h.tal, h.os, h.gens, h.bare⟩, h.nss, fun p hp => h.own p (.tail _ hp), ?_, ?_, ?_⟩
  · unfold Zone.put at e
    by_cases q : b = a
    · rw [if_pos q] at e; cases e; rw [q]; exact h.own _ (.head _)
    · rw [if_neg q] at e; exact h.z b o' e
  · show (if b = a then some o else Z b) = _
    rw [if_neg (fun e => by rw [e, ha] at hb; cases hb)]; exact h.zf b o' hb
  · intro b hb
    show (if b = a then some o else Z b) = none
    rw [if_neg (hna b hb)]
    refine h.zo b ?_
    rcases List.mem_append.mp hb with q | q
    · exact List.mem_append_left _ q
    · exact List.mem_append_right _ (.tail _ q)
  · rw [List.nodup_append]
    exact ⟨hn.1, (List.nodup_cons.mp hn.2.1).2, fun a ha b hb => hn.2.2 a ha b (.tail _ hb)⟩
  · intro b hb
    refine h.lo b ?_
    rcases List.mem_append.mp hb with q | q
    · exact List.mem_append_left _ q
    · exact List.mem_append_right _ (.tail _ q)
/-- a call begins -/
theorem Z0.start (h : Z0 w c G Z s) (T : List Addr) (hT : ∀ a ∈ T, ∃ o, s.heap.get? a = some o) : Z0 w ⟨c.H, s, T, Z⟩ G Z s :=
  ⟨h.base, h.zb, h.z, .refl Z, fun _ _ _ => rfl, fun _ _ _ e => e, fun a ha => let ⟨o, e⟩ := hT a ha; ⟨a, o, Nat.le_refl _, e⟩, rfl, h.gens, h.bare⟩
/-- a call that turned nothing came back -/
theorem S.back {s' : Shared} {Z' : Zone} {G' : Array GenState} (h : S w c G Z ns l s) (k : Z0 w ⟨c.H, s, [], Z⟩ G' Z' s') (hTo : ∀ b ∈ c.T, b ∈ ns.map (·.1) ++ l.map (·.1)) : S w c G' Z' ns l s' := by
  have hk : ∀ b o, s.heap.get? b = some o → s'.heap.get? b = some o := fun b o e => k.keep b o (fun q => nomatch q) e
  refine ⟨⟨h.base, k.zb, k.z, h.zle.trans k.zle, fun b o hb => ?_, fun b o q e => hk b o (h.keep b o q e), fun a ha => let ⟨b, o, hb, e⟩ := h.tal a ha; ⟨b, o, hb, hk b o e⟩, k.os.trans h.os, k.gens, k.bare⟩,
    fun p hp => (h.nss p hp).keeps hk, fun p hp => hk _ _ (h.own p hp), fun a ha => let ⟨o, e⟩ := h.alive a ha; (k.zf a o e).trans (h.zo a ha), h.nd, h.lo⟩
  by_cases hT : b ∈ c.T
  · obtain ⟨o', e'⟩ := h.alive b (hTo b hT); exact (k.zf b o' e').trans (h.zf b o hb)
  · exact (k.zf b o (h.keep b o hT hb)).trans (h.zf b o hb)
theorem Z0.lim (h : Z0 w c G Z s) : s.heap.NoLimit := h.base.lim.keeps fun b o e => h.z b o (h.zb b o e)
theorem Z0.kin (h : Z0 w c G Z s) : (KF w).In s.heap := h.base.k.keeps fun b o e => h.z b o (h.zb b o e)
end
/-- room -/
structure Rm (A : Around) (n : Nat) : Prop where
  depth : A.depth + n < recursionLimit
  units : A.units + 10 * n + 100 < cLine
  handled : A.handled = none
theorem Rm.le {A : Around} {n m : Nat} (h : Rm A n) (hm : m ≤ n) : Rm A m := ⟨by have := h.depth; omega, by have := h.units; omega, h.handled⟩
theorem Rm.deeper {A : Around} {n : Nat} {e : Env} (h : Rm A (n + 1)) : Rm (A.deeper e) n := ⟨by have := h.depth; show A.depth + 1 + n < _; omega, by have := h.units; show A.units + 3 + 10 * n + 100 < _; omega, h.handled⟩
theorem Rm.in1 {A : Around} {n : Nat} (h : Rm A (n + 1)) : Rm A.in1 n := ⟨by have := h.depth; show A.depth + n < _; omega, by have := h.units; show A.units + 1 + 10 * n + 100 < _; omega, h.handled⟩
theorem Rm.lt {A : Around} {n : Nat} (h : Rm A n) : A.depth < recursionLimit := by have := h.depth; omega
theorem Rm.ult {A : Around} {n : Nat} (h : Rm A n) : A.units + 100 < cLine := by have := h.units; omega
/-! ### names and simple nodes -/
theorem got {t : Option Value} {x y : Str} {v u : Value} (h : t = some u) (hn : y ≠ x := by decide) : (if y = x then some v else t) = some u := (if_neg hn).trans h
theorem put {t : Option Value} {x : Str} {v : Value} : (if x = x then some v else t) = some v := if_pos rfl
section
variable {w : World} {c : Ctx0} {G : Array GenState} {Z : Zone} {r : List (Addr × (Str → Option Value))} {l : List (Addr × Obj)} {s : Shared} {A : Around} {E : Value → Shared → Prop} {env : Env} {m : Str → Option Value}
theorem ld {x : Str} {pos : Pos} {v : Value} {Q : Value → Shared → Prop} (h : S w c G Z ((env.locals, m) :: r) l s) (hv : m x = some v) (hq : Q v s)
    (hk : env.scope.kind = .function := by kernel_rfl) (hl : env.kindOf x = some .local := by kernel_rfl) (hd : (x == ("__debug__" : Str)) = false := by decide) :
    wpAny (model PG w) A (eval (.Name x pos) env) Q E s := wpAny_Name (wpAny_loadName_local hk hl (h.nss _ (.head _)) hv hq) hd
theorem st {x : Str} {v : Value} {Q : Unit → Shared → Prop} (h : S w c G Z ((env.locals, m) :: r) l s)
    (hq : ∀ s', S w c G Z ((env.locals, fun y => if y = x then some v else m y) :: r) l s' → Q () s')
    (hl : env.kindOf x = some .local := by kernel_rfl) (hp : (env.scope.kind == .class || (env.scope.kind == .module && env.locals != env.globals)) = false := by kernel_rfl) :
    wpAny (model PG w) A (storeName env x v) Q E s :=
  wpAny_storeName_local hl (h.nss _ (.head _)) (fun h' hn hs => hq _ ((h.nsSet hn hs).toks _)) hp
theorem ldg {x : Str} {pos : Pos} {v : Value} {Q : Value → Shared → Prop} (h : Z0 w c G Z s) (e : nsIn (KF w) mainGlobals x = some (some v)) (hq : Q v s)
    (hk : env.scope.kind = .function := by kernel_rfl) (hx : env.kindOf x = some .globalImplicit := by kernel_rfl) (hg : env.globals = mainGlobals := by kernel_rfl) (hd : (x == ("__debug__" : Str)) = false := by decide) :
    wpAny (model PG w) A (eval (.Name x pos) env) Q E s := by
  obtain ⟨mg, hmg⟩ := h.base.g
  refine Calls.Name_function_global hk hx ?_ hd
  exact Calls.loadGlobal_global (by rw [hg]; exact hmg.keeps fun b o q => h.z b o (h.zb b o q)) (mg_of h.base.k hmg e) hq
theorem ldb {x : Str} {pos : Pos} {v : Value} {Q : Value → Shared → Prop} (h : Z0 w c G Z s) (e : nsIn (KF w) mainGlobals x = some none) (hv : bootBuiltins x = some v) (hq : Q v s)
    (hk : env.scope.kind = .function := by kernel_rfl) (hx : env.kindOf x = some .globalImplicit := by kernel_rfl) (hg : env.globals = mainGlobals := by kernel_rfl) (hb : env.builtins = builtinsNs := by kernel_rfl) (hn : x ≠ "__name__" := by decide) (hd : (x == ("__debug__" : Str)) = false := by decide) :
    wpAny (model PG w) A (eval (.Name x pos) env) Q E s := by
  obtain ⟨mg, hmg⟩ := h.base.g
  obtain ⟨mb, hmb, hbb⟩ := h.base.b
  refine Calls.Name_function_global hk hx ?_ hd
  exact Calls.loadGlobal_builtin (by rw [hg]; exact hmg.keeps fun b o q => h.z b o (h.zb b o q)) (mg_none_of h.base.k hmg e) (by rw [hb]; exact hmb.keeps fun b o q => h.z b o (h.zb b o q)) ((hbb x hn).trans hv) hq
theorem con_int {i : Int} {k pos} {Q : Value → Shared → Prop} (h : S w c G Z r l s) (hq : ∀ t s', S w c G Z r l s' → Q (.int i t) s') : wpAny (model PG w) A (eval (.Constant (.int i) k pos) env) Q E s :=
  fun _ _ _ => hq _ _ (h.toks _)
theorem con_str {x : Str} {k pos} {Q : Value → Shared → Prop} (h : S w c G Z r l s) (hq : ∀ t s', S w c G Z r l s' → Q (.str x t) s') : wpAny (model PG w) A (eval (.Constant (.str x) k pos) env) Q E s :=
  fun _ _ _ => hq _ _ (h.toks _)
theorem con_bool {b : Bool} {k pos} {Q : Value → Shared → Prop} (hq : Q (.bool b) s) : wpAny (model PG w) A (eval (.Constant (.bool b) k pos) env) Q E s :=
  fun _ _ _ => hq
theorem con_none {k pos} {Q : Value → Shared → Prop} (hq : Q .none s) : wpAny (model PG w) A (eval (.Constant .none k pos) env) Q E s :=
  fun _ _ _ => hq
/-- a def is entered -/
theorem enter {R : Result → Shared → Prop} {a : Addr} {o : Obj} {fd : FuncData} {body : List Stmt} {args : Args} {binds : List (Str × Value)} {T : List Addr} {n : Nat}
    (hr : Rm A (n + 1)) (h : Z0 w c G Z s) (ho : (KF w).lookup a = some o) (hd : o.data = .func fd) (hcd : codeIn (KF w) fd.code fd.qualname = true) (hb : fd.body = .stmts body) (hbind : bindArgs fd args = pure binds)
    (hT : ∀ p ∈ l, s.heap.get? p.1 = some p.2 ∧ Z p.1 = none ∧ p.1 ∈ T) (hnd : (l.map (·.1)).Nodup) (hTa : ∀ a ∈ T, ∃ o, s.heap.get? a = some o)
    (k : ∀ L s', S w ⟨c.H, s, T, Z⟩ G Z [((callEnv fd L a).locals, fun y => binds.reverse.lookup y)] l s' → Rm (A.deeper (callEnv fd L a)) n →
      wpAny (model PG w) (A.deeper (callEnv fd L a)) (execs body (callEnv fd L a)) (flowQ R)
        (errQ (model PG w) A (callEnv fd L a) R) s')
    (hcell : (fd.scope.names.all fun x => !(x.2 == .cell)) = true := by kernel_rfl) (hloc : (binds.all fun x => fd.scope.names.lookup x.1 == some .local) = true := by kernel_rfl)
    (hco : fd.scope.isCoroutine = false := by kernel_rfl) (hgen : fd.scope.isGenerator = false := by kernel_rfl) (hk : fd.scope.kind = .function := by kernel_rfl) :
    codeAny (model PG w) A (.call (.ref a) args) R s := by
  refine codeAny_call_def hr.lt (h.kin _ _ ho) hd h.lim (codeRec_of h.kin hcd) hb (.of_eq hbind) (fun x hx q => by have := List.all_eq_true.mp hcell x hx; rw [q] at this; exact absurd this (by decide)) (fun x hx => by simpa using List.all_eq_true.mp hloc x hx) (fun h₁ hns hkeep => ?_) hco hgen hk
  refine k _ _ ?_ hr.deeper
  have z := h.start T hTa
  have hz : Z s.heap.objs.size = none := h.newZ
  refine ⟨⟨z.base, z.zb, fun b o e => hkeep b o (z.z b o e), z.zle, z.zf, fun b o _ e => hkeep b o e, fun a ha => let ⟨o, e⟩ := hTa a ha; ⟨a, o, Nat.le_refl _, hkeep a o e⟩, rfl, z.gens, z.bare⟩, ?_, fun p hp => hkeep _ _ (hT p hp).1, ?_, ?_, ?_⟩
  · intro p hp; rw [List.mem_singleton.mp hp]; exact hns
  · intro a ha
    rcases List.mem_cons.mp ha with rfl | ha
    · exact hz
    · obtain ⟨p, hp, rfl⟩ := List.mem_map.mp ha; exact (hT p hp).2.1
  · refine List.nodup_cons.mpr ⟨fun q => ?_, hnd⟩
    obtain ⟨p, hp, e⟩ := List.mem_map.mp q
    exact absurd (Heap.lt_size (hT p hp).1) (by rw [e]; exact Nat.lt_irrefl _)
  · intro a ha
    rcases List.mem_cons.mp ha with rfl | ha
    · refine .inl ?_
      show s.heap.get? s.heap.objs.size = none
      cases q : s.heap.get? s.heap.objs.size with
      | none => rfl
      | some o => exact absurd (Heap.lt_size q) (Nat.lt_irrefl _)
    · obtain ⟨p, hp, rfl⟩ := List.mem_map.mp ha; exact .inr (hT p hp).2.2
end
noncomputable def obAt (P : Params) (a : Addr) : Obj := ((kf P).lookup a).getD default
noncomputable def fdAt (P : Params) (a : Addr) : FuncData := match (obAt P a).data with | .func fd => fd | _ => default
noncomputable def bodyAt (P : Params) (a : Addr) : List Stmt := match (fdAt P a).body with | .stmts b => b | _ => []
section
variable {w : World} {c : Ctx0} {G : Array GenState} {Z : Zone} {r : List (Addr × (Str → Option Value))} {l : List (Addr × Obj)} {s : Shared} {A : Around} {E : Value → Shared → Prop} {env : Env} {m : Str → Option Value} {pos np : Pos} {Q : Value → Shared → Prop}
noncomputable abbrev doFQ (w : World) (A : Around) (E : Value → Shared → Prop) (f : Addr) (Q : Value → Shared → Prop) : List Value → Shared → Prop := fun vs s₂ => (KF w).In s₂.heap ∧ wpAny (model PG w) A (call (.ref f) vs) Q E s₂
noncomputable abbrev calFQ (w : World) (A : Around) (E : Value → Shared → Prop) (env : Env) (f : Addr) (pos : Pos) (es : List Expr) (Q : Value → Shared → Prop) : Value → Shared → Prop := fun g s₁ => g = .ref f ∧ wpAny (model PG w) A (spliced (backTo pos (starEach es env))) (doFQ w A E f Q) E s₁
inductive lstQ (w : World) (Q : Value → Shared → Prop) (vs : List Value) (s₁ : Shared) : Prop
  | mk (c : Ctx0) (G : Array GenState) (Z : Zone) (r : List (Addr × (Str → Option Value))) (l : List (Addr × Obj)) (hS : S w c G Z r l s₁) (hl : vs.length ≤ sizeLine) (k : ∀ a s₂, c.sc.heap.get? a = none → S w c G Z r ((a, listOf vs.toArray 0) :: l) s₂ → Q (.ref a) s₂) : lstQ w Q vs s₁
theorem args_nil {Q : List Value → Shared → Prop} (h : Q [] s) : wpAny (model PG w) A (spliced (backTo pos (starEach [] env))) Q E s := Calls.spliced_nil h
theorem args_cons {e : Expr} {rest : List Expr} {Q : List Value → Shared → Prop} (h : wpAny (model PG w) A (eval e env) (argQ (model PG w) A E env pos rest Q) E s)
    (he : starEach (e :: rest) env = (false, eval e env) :: starEach rest env := by kernel_rfl) : wpAny (model PG w) A (spliced (backTo pos (starEach (e :: rest) env))) Q E s := by
  rw [he]; exact Calls.spliced_cons h
theorem args_one {e : Expr} {Q : List Value → Shared → Prop} (h : wpAny (model PG w) A (eval e env) (oneQ Q) E s)
    (he : starEach [e] env = [(false, eval e env)] := by kernel_rfl) : wpAny (model PG w) A (spliced (backTo pos (starEach [e] env))) Q E s := by
  rw [he]; exact Calls.spliced_cons (wpAny_mono h (fun _ _ q => Calls.spliced_nil q) fun _ _ x => x)
theorem callB {x : Str} {id : String} {e : Expr} {rest : List Expr} (hn : wpAny (model PG w) A (eval (.Name x np) env) (calQ (model PG w) A E env (.builtin id) pos (e :: rest) Q) E s)
    (he : starEach (e :: rest) env = (false, eval e env) :: starEach rest env := by kernel_rfl) (hp : (backTo pos (starEach rest env)).any (·.1) = false := by kernel_rfl) :
    wpAny (model PG w) A (eval (.Call (.Name x np) (e :: rest) [] pos) env) Q E s := by
  refine wpAny_Call_ofName (wpAny_mono hn (fun f s₁ h => ?_) fun _ _ x => x)
  obtain ⟨rfl, h⟩ := h
  show wpAny (model PG w) A (callWith pos (.builtin id) [] (backTo pos (starEach (e :: rest) env)) []) Q E s₁
  rw [he] at h ⊢
  exact Calls.callWith_builtin (by show (false || (backTo pos (starEach rest env)).any (·.1)) = false; rw [hp]; rfl) (Calls.evalArgs_plain h)
theorem callT {x : Str} {T : String} {e : Expr} {rest : List Expr} (hn : wpAny (model PG w) A (eval (.Name x np) env) (calQ (model PG w) A E env (.type T) pos (e :: rest) Q) E s)
    (he : starEach (e :: rest) env = (false, eval e env) :: starEach rest env := by kernel_rfl) (hp : (backTo pos (starEach rest env)).any (·.1) = false := by kernel_rfl) :
    wpAny (model PG w) A (eval (.Call (.Name x np) (e :: rest) [] pos) env) Q E s := by
  refine wpAny_Call_ofName (wpAny_mono hn (fun f s₁ h => ?_) fun _ _ x => x)
  obtain ⟨rfl, h⟩ := h
  show wpAny (model PG w) A (callWith pos (.type T) [] (backTo pos (starEach (e :: rest) env)) []) Q E s₁
  rw [he] at h ⊢
  exact PySem.callWith_type (by show (false || (backTo pos (starEach rest env)).any (·.1)) = false; rw [hp]; rfl) (Calls.evalArgs_plain h)
theorem callF {x : Str} {f : Addr} {e : Expr} {rest : List Expr} (hk : keepIn (KF w) (.ref f) = true) (hn : wpAny (model PG w) A (eval (.Name x np) env) (calFQ w A E env f pos (e :: rest) Q) E s)
    (he : starEach (e :: rest) env = (false, eval e env) :: starEach rest env := by kernel_rfl) (hp : (backTo pos (starEach rest env)).any (·.1) = false := by kernel_rfl) :
    wpAny (model PG w) A (eval (.Call (.Name x np) (e :: rest) [] pos) env) Q E s := by
  refine wpAny_Call_ofName (wpAny_mono hn (fun g s₁ h => ?_) fun _ _ x => x)
  obtain ⟨rfl, h⟩ := h
  show wpAny (model PG w) A (callWith pos (.ref f) [] (backTo pos (starEach (e :: rest) env)) []) Q E s₁
  rw [he] at h ⊢
  exact callWith_of (by show ((false || (backTo pos (starEach rest env)).any (·.1)) || false) = false; rw [hp]; rfl) (keeps_K hk) (Calls.evalArgs_plain h)
/-- E is of no weight: a name that is a global, as a premise -/
theorem is_ldg {x : Str} {v : Value} {P : Shared → Prop} (h : Z0 w c G Z s) (e : nsIn (KF w) mainGlobals x = some (some v)) (hq : P s)
    (hk : env.scope.kind = .function := by kernel_rfl) (hx : env.kindOf x = some .globalImplicit := by kernel_rfl) (hg : env.globals = mainGlobals := by kernel_rfl) (hd : (x == ("__debug__" : Str)) = false := by decide) :
    wpAny (model PG w) A (eval (.Name x np) env) (fun f s₁ => f = v ∧ P s₁) E s := ldg h e ⟨rfl, hq⟩ hk hx hg hd
theorem is_ldb {x : Str} {v : Value} {P : Shared → Prop} (h : Z0 w c G Z s) (e : nsIn (KF w) mainGlobals x = some none) (hv : bootBuiltins x = some v) (hq : P s)
    (hk : env.scope.kind = .function := by kernel_rfl) (hx : env.kindOf x = some .globalImplicit := by kernel_rfl) (hg : env.globals = mainGlobals := by kernel_rfl) (hb : env.builtins = builtinsNs := by kernel_rfl) (hn : x ≠ "__name__" := by decide) (hd : (x == ("__debug__" : Str)) = false := by decide) :
    wpAny (model PG w) A (eval (.Name x np) env) (fun f s₁ => f = v ∧ P s₁) E s := ldb h e hv ⟨rfl, hq⟩ hk hx hg hb hn hd
theorem S.own' (h : S w c G Z r l s) {a : Addr} {o : Obj} (hm : (a, o) ∈ l) : s.heap.get? a = some o := h.own _ hm
theorem isList_of {h : Heap} {a : Addr} {vs : Array Value} {n : Nat} (e : h.get? a = some (listOf vs n)) : h.IsList a vs := ⟨_, e, rfl, n, rfl⟩
/-- [e1, ..] -/
theorem mk_list {elts : List Expr} (hq : wpAny (model PG w) A (spliced (backTo pos (starEach elts env))) (lstQ w Q) E s) : wpAny (model PG w) A (eval (.List elts pos) env) Q E s := by
  refine List_ (wpAny_mono hq (fun vs s₁ h => ?_) fun _ _ x => x)
  obtain ⟨c, G, Z, r, l, hS, hsz, hQ⟩ := h
  exact wpAny_newObj_type (hQ _ _ hS.new (hS.push (listOf vs.toArray 0) rfl)) (by show vs.toArray.size ≤ sizeLine; rw [List.size_toArray]; exact hsz)
end
inductive Fm where
  | leaf (x : Str)
  | node (l r : Fm)
  deriving DecidableEq
noncomputable def Fm.spread : Fm → List Fm
  | .leaf x => [.leaf x]
  | .node l r => l :: r.spread
noncomputable def Fm.depth : Fm → Nat
  | .leaf _ => 0
  | .node _ r => r.depth + 1
theorem Fm.spread_length : ∀ t : Fm, t.spread.length = t.depth + 1
  | .leaf _ => rfl
  | .node _ r => by rw [spread, List.length_cons, r.spread_length, depth]
inductive TreeAt (Z : Zone) : Value → Fm → Prop
  | leaf (x : Str) (t : Tok) : TreeAt Z (.str x t) (.leaf x)
  | node {a : Addr} {v1 v2 : Value} {n : Nat} {l r : Fm} : Z a = some (W.listOf #[v1, v2] n) → TreeAt Z v1 l → TreeAt Z v2 r → TreeAt Z (.ref a) (.node l r)
theorem TreeAt.mono {Z Z' : Zone} (h : Z.le Z') {v : Value} {t : Fm} (x : TreeAt Z v t) : TreeAt Z' v t := by
  induction x with
  | leaf x t => exact .leaf x t
  | node e _ _ i1 i2 => exact .node (h _ _ e) i1 i2
inductive TreesAt (Z : Zone) : List Value → List Fm → Prop
  | nil : TreesAt Z [] []
  | cons {v vs t ts} : TreeAt Z v t → TreesAt Z vs ts → TreesAt Z (v :: vs) (t :: ts)
theorem TreesAt.mono {Z Z' : Zone} (h : Z.le Z') {v : List Value} {t : List Fm} (x : TreesAt Z v t) : TreesAt Z' v t := by
  induction x with
  | nil => exact .nil
  | cons e _ ih => exact .cons (e.mono h) ih
theorem TreesAt.append {Z : Zone} {v v' : List Value} {t t' : List Fm} (x : TreesAt Z v t) (y : TreesAt Z v' t') : TreesAt Z (v ++ v') (t ++ t') := by
  induction x with
  | nil => exact y
  | cons e _ ih => exact .cons e ih
theorem TreesAt.length {Z : Zone} {v : List Value} {t : List Fm} (x : TreesAt Z v t) : v.length = t.length := by
  induction x with
  | nil => rfl
  | cons _ _ ih => simp [ih]
section
variable {w : World} {c : Ctx0} {G : Array GenState} {Z : Zone} {r : List (Addr × (Str → Option Value))} {l : List (Addr × Obj)} {s : Shared} {A : Around} {E : Value → Shared → Prop} {env : Env} {m : Str → Option Value} {pos np : Pos} {Q : Value → Shared → Prop}
theorem item_at {value slice : PySem.Expr} {a : Addr} {vs : Array Value} {k : Int} {u : Tok} {v : Value} {n : Nat}
    (ho : s.heap.get? a = some (W.listOf vs n)) (h0 : 0 ≤ k) (hhi : k < 2 ^ 63) (hx : vs[k.toNat]? = some v) (h : Q v s)
    (hs : subscripted slice false (.ref a) (.int k u) = operate [.ref a, .int k u] (getItem (.ref a) (.int k u)) := by kernel_rfl) :
    wpAny (model PG w) A (subscriptTail value slice (.ref a) (.int k u)) Q E s :=
  tail_any (isList_of ho).typeIs slot_list_getitem.lookup (wpAny_getItem_list (isList_of ho) h0 hhi hx h) hs
inductive appQ2 (w : World) (Q : Value → Shared → Prop) (D : Addr) (its : Array Value) (n : Nat) (y : Value) (s₂ : Shared) : Prop
  | mk (c : Ctx0) (G : Array GenState) (Z : Zone) (r : List (Addr × (Str → Option Value))) (l l' : List (Addr × Obj)) (hS : S w c G Z r l s₂) (u : Upd D (W.listOf its n) (listOf (its.push y) (n + 1)) l l') (hz : its.size ≤ sizeLine) (k : ∀ s₃, S w c G Z r l' s₃ → Q .none s₃) : appQ2 w Q D its n y s₂
inductive appQ (w : World) (A : Around) (E : Value → Shared → Prop) (env : Env) (elt : Expr) (Q : Value → Shared → Prop) (ov : Value) (s₁ : Shared) : Prop
  | mk (D : Addr) (its : Array Value) (n : Nat) (e : ov = .ref D) (ho : s₁.heap.get? D = some (W.listOf its n)) (h : wpAny (model PG w) A (eval elt env) (appQ2 w Q D its n) E s₁) : appQ w A E env elt Q ov s₁
/-- l.append(e) on an own list -/
theorem append_own {o elt : Expr} {apos : Pos} (hq : wpAny (model PG w) A (eval o env) (appQ w A E env elt Q) E s)
    (hbase : attributeBase o "append" env (eval o env) = eval o env := by kernel_rfl)
    (hfew : ((backTo pos (starEach [elt] env)).all (fun x => !x.1) && (backToKw pos (keywordEach [] env)).all (fun x => x.1.isSome)
      && decide (([elt] : List Expr).length + ([] : List Keyword).length + (if ([] : List Keyword).isEmpty then 0 else 1) < 30)) = true := by kernel_rfl)
    (hline : (apos.endLine == pos.line) = true := by kernel_rfl)
    (htrees : backTo pos (starEach [elt] env) = [(false, eval elt env)] := by kernel_rfl) :
    wpAny (model PG w) A (eval (.Call (.Attribute o "append" apos) [elt] [] pos) env) Q E s := by
  refine wpAny_Call_append hbase hfew hline htrees (wpAny_mono hq (fun ov s₁ h => ?_) fun _ _ x => x)
  obtain ⟨D, its, n, rfl, ho, h⟩ := h
  refine ⟨D, its, rfl, ⟨_, n, ho, rfl, rfl, rfl⟩, wpAny_mono h (fun y s₂ h₂ => ?_) fun _ _ x => x⟩
  obtain ⟨c, G, Z, r, l, l', hS, u, hsz, hQ⟩ := h₂
  have hl := isList_of (hS.own' u.mem)
  refine wpAny_call_entry slot_list_append hl.typeIs entry_list_append ?_ (args_list_append _ _)
  show wpAny _ _ (updateSeq D (·.push y) >>= fun _ => ret .none) _ _ s₂
  refine wpAny_bind (wpAny_updateSeq (hS.own' u.mem) rfl (wpAny_pure ⟨.none, rfl, hQ _ (hS.upd u ?_ rfl)⟩))
  show Obj.mapSeq (·.push y) (W.listOf its n) = _
  simp [Obj.mapSeq]
theorem isin_list {a : Addr} {vs : Array Value} {n : Nat} (ho : s.heap.get? a = some (W.listOf vs n)) (h : Q (.bool true) s) : wpAny (model PG w) A (call (.builtin "isinstance") [.ref a, .type "list"]) Q E s :=
  IsiPair.list_list ho rfl h
/-- the plain tests of isinstance(x, list) -/
theorem isin_tree {v : Value} {t : Fm} (h : S w c G Z r l s) (ht : TreeAt Z v t) (hq : ∀ s', S w c G Z r l s' → Q (.bool (match t with | .leaf _ => false | .node _ _ => true)) s') :
    wpAny (model PG w) A (call (.builtin "isinstance") [v, .type "list"]) Q E s := by
  cases ht with
  | leaf x t => exact IsiPair.str_list (hq _ (h.toks _))
  | node e _ _ => exact isin_list (h.z _ _ e) (hq _ h)
end
section
variable {w : World} {c : Ctx0} {G : Array GenState} {Z : Zone} {r : List (Addr × (Str → Option Value))} {l : List (Addr × Obj)} {s : Shared} {A : Around} {E : Value → Shared → Prop} {env : Env} {m : Str → Option Value} {pos np : Pos} {Q : Value → Shared → Prop}
theorem add_own {a b : Addr} {vs ws : List Value} {n n2 : Nat} (h : S w c G Z r l s) (ha : s.heap.get? a = some (W.listOf vs.toArray n)) (hb : s.heap.get? b = some (W.listOf ws.toArray n2)) (hsz : vs.length + ws.length ≤ sizeLine)
    (hq : ∀ x s', c.sc.heap.get? x = none → S w c G Z r ((x, W.listOf (vs ++ ws).toArray 0) :: l) s' → Q (.ref x) s') : wpAny (model PG w) A (binaryOp .Add (.ref a) (.ref b)) Q E s := by
  have e : vs.toArray ++ ws.toArray = (vs ++ ws).toArray := by simp
  refine concat_meets ⟨_, ha, rfl⟩ ⟨_, hb, rfl⟩ noFill_list_add seq_list_add PySem.F.slot_list_add PySem.F.entry_list_add (PySem.F.args_list_add_2 _ _) (list_addW a b vs.toArray ws.toArray n n2 none none #[] #[] (by simpa using hsz)) ⟨ha, hb, ?_⟩
  rw [e]
  exact hq _ _ h.new (h.push (W.listOf (vs ++ ws).toArray 0) rfl)
end
theorem spread_ok {w : World} {c : Ctx0} {G : Array GenState} {Z : Zone} {s : Shared} {A : Around} {E Q : Value → Shared → Prop} {v : Value} {t : Fm} (hr : Rm A 2) (h : Z0 w c G Z s) (ht : TreeAt Z v t) (hd : t.depth ≤ 1000)
    (k : ∀ a vs n s' Z', Z0 w ⟨c.H, s, [], Z⟩ G Z' s' → Z' a = some (W.listOf vs.toArray n) → TreesAt Z' vs t.spread → Q (.ref a) s') : wpAny (model PG w) A (call (.ref 234) [v]) Q E s := by
  have h1 : (KF w).lookup 234 = some (obAt w.params 234) := by kernel_rfl
  have h2 : (obAt w.params 234).data = .func (fdAt w.params 234) := by kernel_rfl
  have h3 : codeIn (KF w) (fdAt w.params 234).code (fdAt w.params 234).qualname = true := by kernel_rfl
  have h4 : (fdAt w.params 234).body = .stmts (bodyAt w.params 234) := by kernel_rfl
  have h5 : bindArgs (fdAt w.params 234) ⟨[v], []⟩ = pure [(Str.ofString "tree", v)] := by kernel_rfl
  refine wpAny_call (enter (T := []) (l := []) hr h h1 h2 h3 h4 h5 (fun _ q => nomatch q) .nil (fun _ q => nomatch q) ?_)
  intro L s₁ hs hr'
  -- row = []
  refine wpAny_execs_cons (wpAny_Assign_Name (mk_list (args_nil ⟨_, _, _, _, _, hs, by decide, fun D s₂ _ hs₂ => ?_⟩)))
  refine st hs₂ fun s₃ hs₃ => ?_
  -- while
  refine wpAny_execs_cons (wpAny_While ?_)
  refine whileLoopJ (fun n s' => ∃ m vs pre k v' t', S w ⟨c.H, s, [], Z⟩ G Z [((callEnv (fdAt w.params 234) L 234).locals, m)] [(D, W.listOf vs.toArray k)] s' ∧ m (Str.ofString "row") = some (.ref D) ∧ m (Str.ofString "tree") = some v' ∧ TreeAt Z v' t' ∧
    TreesAt Z vs pre ∧ pre ++ t'.spread = t.spread ∧ n = t'.depth) ?_ t.depth ⟨_, [], [], 0, v, t, hs₃, if_pos rfl, rfl, ht, .nil, rfl, rfl⟩
  intro JJ jj E
  rintro n s' ⟨m, vs, pre, k', v', t', hS, hm1, hm2, ht', hvs, hpre, rfl⟩
  have hlen : pre.length + (t'.depth + 1) = t.depth + 1 := by have := congrArg List.length hpre; simpa [Fm.spread_length] using this
  refine isTrue_plain (callB (is_ldb hS.toZ0 (by kernel_rfl) (by kernel_rfl) (args_cons (ld hS hm2 (args_one (ldb hS.toZ0 (by kernel_rfl) (by kernel_rfl) (isin_tree hS ht' fun s'' hS'' => wpAny_truthy_bool ?_)))))))
  cases ht' with
  | leaf x tk =>
    refine wpAny_execs_nil ?_
    refine wpAny_execs_cons (wpAny_Return_some (wpAny_BinOp (ld hS'' hm1 (mk_list (args_one (ld hS'' hm2 ⟨_, _, _, _, _, hS'', (by show 1 ≤ sizeLine; decide), fun D2 s3 _ hS3 => ?_⟩))))))
    refine add_own hS3 (vs := vs) (ws := [Value.str x tk]) (hS3.own' (.tail _ (.head _))) (hS3.own' (.head _)) (by have := hvs.length; show vs.length + 1 ≤ sizeLine; rw [sizeLine_eq]; omega) ?_
    intro a s4 ha hS4
    have hz := hS4.freeze ha
    refine k a _ _ s4 _ hz.toZ0 Zone.put_self ?_
    rw [← hpre]
    exact (hvs.append (.cons (.leaf x tk) .nil)).mono (Zone.put_le _ (hS4.zo a (List.mem_append_right _ (.head _))))
  | @node a v1 v2 n tl tr e ht1 ht2 =>
    have ea := hS''.z _ _ e
    refine wpAny_execs_cons (wpAny_Expr (append_own (ld hS'' hm1 ⟨D, vs.toArray, k', rfl, hS''.own' (.head _), Subscript_ (ld hS'' hm2 (con_int hS'' fun tk s3 hS3 => item_at (hS3.z _ _ e) (by decide) (by decide) rfl ⟨_, _, _, _, _, _, hS3, .head, ?_, fun s4 hS4 => ?_⟩))⟩)))
    · have := hvs.length; show vs.toArray.size ≤ sizeLine; rw [List.size_toArray, sizeLine_eq]; omega
    refine wpAny_execs_cons (wpAny_Assign_Name (Subscript_ (ld hS4 hm2 (con_int hS4 fun tk s5 hS5 => item_at (hS5.z _ _ e) (by decide) (by decide) rfl (st hS5 fun s6 hS6 => ?_)))))
    rw [List.push_toArray] at hS6
    refine wpAny_execs_nil ⟨tr.depth, Nat.lt_succ_self _, jj _ _ ?_⟩
    exact ⟨_, vs ++ [v1], pre ++ [tl], k' + 1, v2, tr, hS6, got hm1, put, ht2, hvs.append (.cons ht1 .nil), by rw [← hpre, Fm.spread]; simp, rfl⟩
/-! ### segments of a generator: nodes that GenRules lacks -/
section
variable {M : Model} {A : Around} {R : GenEnd} {Y : Protocol} {n : Nat} {s₀ : Shared} {c : Code} {fs : List Frame} {s : Shared} {env : Env}
  {gd : Bool → Bool} {lv : List Value → List Value}
theorem sg_bind {α β : Type} {m : Sem α} {f : α → Sem β} {K : β → Sem Fin} {H : Value → Sem Fin}
    (h : wpAny M (A.over c fs) m (fun a s' => Seg M A R Y n s₀ c ((f a).wrap K H gd lv) fs s') (fun x s' => Seg M A R Y n s₀ c (H x) fs s') s) :
    Seg M A R Y n s₀ c ((m >>= f).wrap K H gd lv) fs s := by
  rw [Sem.bind_eq_wrap', Sem.wrap_wrap]
  exact seg_wrap (wpAny_mono h (fun _ _ q => q) fun _ _ q => q)
theorem sg_stmt {st : Stmt} {K : Flow → Sem Fin} {H : Value → Sem Fin} (h : wpAny M (A.over c fs) (exec st env) (fun f s' => Seg M A R Y n s₀ c (K f) fs s') (fun x s' => Seg M A R Y n s₀ c (H x) fs s') s) :
    Seg M A R Y n s₀ c ((exec st env).wrap K H gd lv) fs s := seg_wrap h
theorem sg_If {test : Expr} {body orelse : List Stmt} {pos : Pos} {K : Flow → Sem Fin} {H : Value → Sem Fin}
    (h : wpAny M (A.over c fs) (isTrue test env (eval test env)) (fun b s' => if b = true then Seg M A R Y n s₀ c ((execs body env).wrap K H gd lv) fs s' else Seg M A R Y n s₀ c ((execs orelse env).wrap K H gd lv) fs s')
      (fun x s' => Seg M A R Y n s₀ c (H x) fs s') s) :
    Seg M A R Y n s₀ c ((exec (.If test body orelse pos) env).wrap K H gd lv) fs s := by
  rw [exec_If]
  refine sg_bind (wpAny_standAt (sg_bind (wpAny_mono h (fun b s' hb => ?_) fun _ _ q => q)))
  cases b with
  | true => exact hb
  | false => exact hb
theorem sg_For {target iter : Expr} {body orelse : List Stmt} {pos : Pos} {K : Flow → Sem Fin} {H : Value → Sem Fin}
    (h : wpAny M (A.over c fs) (eval iter env) (fun xv s₁ => wpAny M (A.over c fs) (pyIter xv) (fun it s₂ =>
      ∀ p, Seg M A R Y n s₀ (.forLoop target it body orelse env) (M.den (.forLoop target it body orelse env))
      (.ret (fun r => ((match r with | .ok f => (.pure f : Sem Flow) | .error e => .raise e).onRaise fun (x : Value) => do
        if (← field x 1) == Value.none then unsupported "frame.own-activation:exception-without-traceback"
        setFlight x env.frame).wrap K H gd lv) none (gd false) (lv []) c p [] :: fs) s₂) (fun x s' => Seg M A R Y n s₀ c (H x) fs s') s₁) (fun x s' => Seg M A R Y n s₀ c (H x) fs s') s)
    (hs : ∀ x, foldedSetIterable iter env x = pure x) :
    Seg M A R Y n s₀ c ((exec (.For target iter body orelse pos) env).wrap K H gd lv) fs s := by
  rw [exec_For]
  refine sg_bind (wpAny_standAt (sg_bind (wpAny_mono h (fun xv s₁ h₁ => ?_) fun _ _ q => q)))
  rw [hs]
  refine sg_bind (wpAny_pure (sg_bind (wpAny_standAt (sg_bind (wpAny_holding (wpAny_mono h₁ (fun it s₂ h₂ => ?_) fun _ _ q => q))))))
  exact seg_call h₂
end
section
variable {prog : Program} {w : World} {A : Around} {R : GenEnd} {Y : Protocol} {n : Nat} {s₀ : Shared} {fs : List Frame} {s : Shared} {env : Env}
theorem sg_forLoop {target : Expr} {it : Value} {body : List Stmt}
    (h : wpAny (model prog w) (A.over (.forLoop target it body [] env) fs) (pyNext it) (fun r s₁ => match r with
        | none => Seg (model prog w) A R Y n s₀ (.block [] env) (.pure (.done .next)) fs s₁
        | some v => wpAny (model prog w) (A.over (.forLoop target it body [] env) fs) (letOwnedTupleGo target it v) (fun _ s₂ =>
            wpAny (model prog w) (A.over (.forLoop target it body [] env) fs) (assign target env v) (fun _ s₃ =>
              Seg (model prog w) A R Y n s₀ (.forLoop target it body [] env) ((execs body env).wrap (fun f => match f with
                | .next | .cont => .pure (.again (.forLoop target it body [] env))
                | .brk => .pure (.done .next)
                | .ret v => .pure (.done (.ret v))) (fun e => (do noteFrame e env; theTreesLotGoes e : Sem Unit).wrap (fun _ => .raise e) .raise id id) id id) fs s₃)
              (fun _ _ => False) s₂) (fun _ _ => False) s₁)
      (fun _ _ => False) s) :
    Seg (model prog w) A R Y n s₀ (.forLoop target it body [] env) ((model prog w).den (.forLoop target it body [] env)) fs s := by
  show Seg _ A R Y n s₀ _ ((forTurn target it body [] env).onRaise (fun x => do noteFrame x env; theTreesLotGoes x)) fs s
  unfold forTurn
  rw [Sem.onRaise_eq_wrap]
  refine sg_bind (wpAny_standAt ?_)
  refine sg_bind (wpAny_onRaise (wpAny_mono h (fun r s₁ h₁ => ?_) fun _ _ q => q.elim))
  cases r with
  | none =>
    refine seg_again rfl ?_
    exact h₁
  | some v =>
    refine sg_bind (wpAny_mono h₁ (fun _ s₂ h₂ => ?_) fun _ _ q => q.elim)
    refine sg_bind (wpAny_mono h₂ (fun _ s₃ h₃ => ?_) fun _ _ q => q.elim)
    show Seg _ A R Y n s₀ _ (Sem.wrap _ _ _ _ (execs body env >>= _)) fs s₃
    rw [Sem.bind_eq_wrap', Sem.wrap_wrap]
    rw [Sem.wrap_congr (execs body env) _ _ (K' := fun f => match f with
                | .next | .cont => .pure (.again (.forLoop target it body [] env))
                | .brk => .pure (.done .next)
                | .ret v => .pure (.done (.ret v))) (H' := (fun e => (do noteFrame e env; theTreesLotGoes e : Sem Unit).wrap (fun _ => .raise e) .raise id id))
        (fun f => by cases f <;> rfl)
        (fun e => by first | exact Sem.bind_eq_wrap _ _ | (show (do noteFrame e env; theTreesLotGoes e : Sem Unit).bind (fun _ => .raise e) = _; rw [Sem.bind_eq_wrap]))]
    exact h₃
end
/-! ### the units of _iter_escaped_chars -/
noncomputable def unitsFrom : Nat → Bool → List Nat → List (Nat × List Nat)
  | i, true, [] => [(i - 1, [92])]
  | _, false, [] => []
  | i, true, c :: r => (i, [92, c]) :: unitsFrom (i + 1) false r
  | i, false, c :: r => if c = 92 then unitsFrom (i + 1) true r else (i, [c]) :: unitsFrom (i + 1) false r
noncomputable abbrev tupObj (vs : List Value) : Obj := { cls := .type "tuple", data := .seq vs.toArray }
noncomputable abbrev unitObj (u : Nat × List Nat) (t t' : Tok) : Obj := tupObj [.int (u.1 : Int) t, .str ⟨u.2.toArray⟩ t']
noncomputable abbrev enumObj (it : Addr) (i : Nat) (old : Value) : Obj := { cls := .type "enumerate", dict := none, data := .fields #[.none, .bool false, .ref it, rawInt (i : Int), .none, old], slots := #[] }
noncomputable def IterObj (o : Obj) (x : Str) (t : Tok) (i : Nat) : Prop := o.cls = .type "str_ascii_iterator" ∧ o.data = .fields #[.str x t, .int i 0]
noncomputable abbrev itFd (P : Params) : FuncData := fdAt P 193
noncomputable abbrev itEnv (w : World) (L : Addr) : Env := callEnv (itFd w.params) L 193
noncomputable def itTgt (P : Params) : PySem.Expr := match bodyAt P 193 with
  | _ :: _ :: .For t _ _ _ _ :: _ => t
  | _ => .Name default default
noncomputable def itLoop (P : Params) : List Stmt := match bodyAt P 193 with
  | _ :: _ :: .For _ _ b _ _ :: _ => b
  | _ => []
noncomputable def itRest (P : Params) : List Stmt := (bodyAt P 193).drop 3
/-- what a suspended one owns -/
structure FF (H : Heap) (L : Addr) (m : Str → Option Value) (gl : List (Addr × Obj)) (h : Heap) : Prop where
  hk : ∀ b o, H.get? b = some o → h.get? b = some o
  ns : h.Ns L m
  own : ∀ p ∈ gl, h.get? p.1 = some p.2
noncomputable def RRe (T : List Addr) : GenEnd := fun n s₀ r s₁ => r = .ok (.ret .none) ∧ n = 0 ∧ s₁.os = s₀.os ∧ s₁.gens = s₀.gens ∧ (∀ b o, b ∉ T → s₀.heap.get? b = some o → s₁.heap.get? b = some o)
noncomputable def YY (H : Heap) (L e it : Addr) (U : List (Nat × List Nat)) : Protocol := fun n s₀ v s' kap =>
  ∃ u a t t' m gl, U.reverse[n]? = some u ∧ v = .ref a ∧ s'.heap.get? a = some (unitObj u t t') ∧ s₀.heap.get? a = none ∧ a ∉ L :: gl.map (·.1) ∧ gl.map (·.1) = [e, it] ∧
    FF H L m gl s'.heap ∧ (∀ b o, b ∉ [L, e, it] → s₀.heap.get? b = some o → s'.heap.get? b = some o) ∧ s'.os = s₀.os ∧ s'.gens = s₀.gens ∧
    ∀ s'', FF H L m gl s''.heap → AllBare s''.gens → kap (.send .none) s''
section
variable {w : World} {c : Ctx0} {G : Array GenState} {Z : Zone} {r : List (Addr × (Str → Option Value))} {l : List (Addr × Obj)} {s : Shared} {A : Around} {E : Value → Shared → Prop} {env : Env} {m : Str → Option Value} {pos np : Pos}
inductive tupQ (w : World) (Q : Value → Shared → Prop) (vs : List Value) (s₁ : Shared) : Prop
  | mk (c : Ctx0) (G : Array GenState) (Z : Zone) (r : List (Addr × (Str → Option Value))) (l : List (Addr × Obj)) (hS : S w c G Z r l s₁) (hl : vs.length ≤ sizeLine) (k : ∀ a s₂, c.sc.heap.get? a = none → S w c G Z r ((a, tupObj vs) :: l) s₂ → Q (.ref a) s₂) : tupQ w Q vs s₁
/-- (e1, e2 ..) -/
theorem mk_tuple {k : Nat} {elts : List PySem.Expr} {Q : Value → Shared → Prop} (hq : wpAny (model PG w) A (spliced (backTo pos (starEach elts env))) (tupQ w Q) E s) : wpAny (model PG w) A (eval (.Tuple elts k pos) env) Q E s := by
  refine Tuple_ (wpAny_mono hq (fun vs s₁ h => ?_) fun _ _ x => x)
  obtain ⟨c, G, Z, r, l, hS, hsz, hQ⟩ := h
  exact wpAny_newObj_type (hQ _ _ hS.new (hS.push (tupObj vs) rfl)) (by show vs.toArray.size ≤ sizeLine; rw [List.size_toArray]; exact hsz)
theorem add_str' {x y : Str} {t u : Tok} {Q : Value → Shared → Prop} (h : S w c G Z r l s) (hsz : x.length + y.length ≤ sizeLine) (hq : ∀ t' s', S w c G Z r l s' → Q (.str (x ++ y) t') s') :
    wpAny (model PG w) A (binaryOp .Add (.str x t) (.str y u)) Q E s := PyProof.Rows.add_str (fun t' tk => hq t' _ (h.toks _)) hsz
/-- two names out of a tuple of two -/
theorem assign_two {x y : Str} {px py : Pos} {k : Nat} {T : Addr} {u v : Value} {Q : Unit → Shared → Prop} (hh : A.handled = none) (h : S w c G Z ((env.locals, m) :: r) l s) (hT : s.heap.get? T = some (tupObj [u, v]))
    (hq : ∀ s', S w c G Z ((env.locals, fun z => if z = y then some v else (fun z => if z = x then some u else m z) z) :: r) l s' → Q () s')
    (hlx : env.kindOf x = some .local := by kernel_rfl) (hly : env.kindOf y = some .local := by kernel_rfl) (hp : (env.scope.kind == .class || (env.scope.kind == .module && env.locals != env.globals)) = false := by kernel_rfl) :
    wpAny (model PG w) A (assign (.Tuple [.Name x px, .Name y py] k pos) env (.ref T)) Q E s := by
  refine wpAny_assign_Tuple hh (items := #[u, v]) ⟨_, hT, rfl, _, rfl⟩ rfl rfl (fun h' he => ?_)
  have h1 : S w c G Z ((env.locals, m) :: r) l { s with heap := h' } := h.heapK fun b o e => he b o (Nat.ne_of_lt (Heap.lt_size e)) e
  show wpAny (model PG w) A (do holding [v] (assign (.Name x px) env u); assignInOrder [assign (.Name y py) env] [v]) Q E _
  refine wpAny_bind (wpAny_holding (wpAny_assign_Name (st h1 (fun s2 h2 => ?_) hlx hp)))
  show wpAny (model PG w) A (do holding [] (assign (.Name y py) env v); assignInOrder [] []) Q E _
  refine wpAny_bind (wpAny_holding (wpAny_assign_Name (st h2 (fun s3 h3 => ?_) hly hp)))
  exact wpAny_pure (hq _ h3)
/-- an enumerate over a text's signs at its end; the inner iterator still stands -/
theorem enum_ascii_end {e it : Addr} {x : Str} {t : Tok} {i : Nat} {old : Value} {Q : Option Value → Shared → Prop} (hh : A.handled = none) (he : IsEnum s.heap e it i old) (hit : s.heap.IsStrIter it "str_ascii_iterator" x t i) (hx : x.cps[i]? = none)
    (hQ : ∀ h', Heap.ExtBut it s.heap h' → (∃ o, h'.get? it = some o) → Q none { s with heap := h' }) : wpAny (model PG w) A (pyNext (.ref e)) Q E s := by
  have hT : s.TypeIs (.ref e) "enumerate" := ⟨_, he, rfl⟩
  obtain ⟨o, ho, hc, hd⟩ := id hit
  unfold pyNext
  refine wpAny_bind (wpAny_attempt (wpAny_callSpecial?_slot (name := Str.ofString "__next__") hT F.slot_enumerate_next
    (wpAny_call_entry F.slot_enumerate_next hT F.entry_enumerate_next ?_ (F.args_enumerate_next_1 _))))
  show wpAny _ _ (field (.ref e) 2 >>= _) _ _ _
  refine wpAny_bind (wpAny_field he rfl (x := .ref it) rfl ?_)
  refine wpAny_bind ?_
  unfold Builtin.SmallTypes.nextOf
  refine wpAny_bind (wpAny_callSpecial?_slot (name := Str.ofString "__next__") hit.typeIs F.slot_str_ascii_iterator_next
    (wpAny_call_entry F.slot_str_ascii_iterator_next hit.typeIs F.entry_str_ascii_iterator_next ?_ (F.args_str_ascii_iterator_next_1 _)))
  show wpAny _ _ (field (.ref it) 0 >>= _) _ _ s
  refine wpAny_bind (wpAny_field ho hd (x := .str x t) rfl ?_)
  show wpAny _ _ (field (.ref it) 1 >>= _) _ _ s
  refine wpAny_bind (wpAny_field ho hd (x := .int i 0) rfl ?_)
  simp only [Int.toNat_natCast, hx]
  refine wpAny_bind (wpAny_rule (wpAny_bind (wpAny_setField ho hd (by simp) (wpAny_bind (wpAny_letGo ?_)))))
  show wpAny _ _ (newExc (.type "StopIteration") [] >>= _) _ _ _
  refine wpAny_bind ?_
  simp only [newExc, newTuple]
  refine wpAny_bind (wpAny_newObj_type ?_ (by size_fits))
  refine wpAny_bind (m := firstArgMember _ _) (wpAny_of_eq (a := Value.none) (by first | rfl | (simp only [firstArgMember]; rfl)) ?_)
  refine wpAny_newObj_type ?_ (by size_fits)
  simp only [raiseNew]
  refine wpAny_bind (wpAny_handled ?_)
  rw [show A.in1.in1.handled = none from hh]
  refine wpAny_bind (wpAny_pure (wpAny_throw ?_))
  refine wpAny_bind (wpAny_isInstance (T := "StopIteration") (b := true) ⟨_, Heap.get?_push_size _ rfl, rfl⟩ isSubtype_stop ?_)
  refine wpAny_pure (hQ _ (((Heap.SameBut.update ..).extBut.push _).push _) ⟨_, Heap.get?_push_of_some _ (Heap.get?_push_of_some _ (Heap.get?_update_self _ ho (Obj.isFreed_of_fields (Obj.data_mapFields hd _))))⟩)
end
local macro_rules | `(tactic| walk_at "lk") => `(tactic| first | with_reducible exact put | with_reducible assumption | ((with_reducible refine' got ?h9 ?n9); (case n9 => decide); (case h9 => walk_at "lk")) | exact rfl)
theorem Rm.loop {A : Around} {n : Nat} (h : Rm A (n + 1)) {tgt : PySem.Expr} {it : Value} {b fb : List Stmt} {env env' : Env} {kk : Result → Sem PySem.Fin} {g : Bool} {lv : List Value} {p : Pos} :
    Rm (A.over (.forLoop tgt it b [] env) [.ret kk none g lv (.func fb env') p []]) n := by
  refine ⟨?_, ?_, ?_⟩
  · have := h.depth
    show A.depth + 1 + 0 + n < _
    omega
  · have := h.units
    show A.units + 3 + 0 + 10 * n + 100 < _
    omega
  · show A.handled = none
    exact h.handled
theorem Rm.func {A : Around} {n : Nat} (h : Rm A (n + 1)) {fb : List Stmt} {env : Env} : Rm (A.over (.func fb env) []) n := by
  refine ⟨?_, ?_, h.handled⟩
  · have := h.depth
    show A.depth + 0 + 1 + n < _
    omega
  · have := h.units
    show A.units + 0 + 3 + 10 * n + 100 < _
    omega
noncomputable abbrev itK : Flow → Sem PySem.Fin := fun f => .pure (.done (.ret (match f with | .ret v => v | _ => .none)))
section
variable {w : World} {H : Heap} {x : Str} {tx : Tok} {e it : Addr} {T : List Addr} {U : List (Nat × List Nat)} {A : Around} {L : Addr}
/-- the zone of all that is alive but what is turned -/
noncomputable def aliveZone (s : Shared) (T : List Addr) : Zone := fun b => if b ∈ T then none else s.heap.get? b
theorem S.wake {i : Nat} {m : Str → Option Value} {old : Value} {io : Obj} {s : Shared} (B : Base w H) (hg : FF H L m [(e, enumObj it i old), (it, io)] s.heap) (hb : AllBare s.gens) (hnd : [L, e, it].Nodup)
    (hH : ∀ a ∈ [L, e, it], H.get? a = none) : S w ⟨H, s, [L, e, it], aliveZone s [L, e, it]⟩ s.gens (aliveZone s [L, e, it]) [((itEnv w L).locals, m)] [(e, enumObj it i old), (it, io)] s := by
  have hmem : ∀ b, b ∈ [L, e, it] → ∃ o, s.heap.get? b = some o := fun b hb => by
    rcases List.mem_cons.mp hb with rfl | hb
    · obtain ⟨o, _, _, q, _⟩ := hg.ns; exact ⟨o, q⟩
    · rcases List.mem_cons.mp hb with rfl | hb
      · exact ⟨_, hg.own _ (.head _)⟩
      · rw [List.mem_singleton.mp hb]; exact ⟨_, hg.own _ (.tail _ (.head _))⟩
  refine ⟨⟨B, fun b o q => ?_, fun b o q => ?_, .refl _, fun _ _ _ => rfl, fun b o _ q => q, fun b hb => let ⟨o, e⟩ := hmem b hb; ⟨b, o, Nat.le_refl _, e⟩, rfl, rfl, hb⟩, ?_, ?_, ?_, hnd, ?_⟩
  · unfold aliveZone
    rw [if_neg fun hb => by rw [hH b hb] at q; cases q]
    exact hg.hk b o q
  · unfold aliveZone at q
    by_cases hb : b ∈ [L, e, it]
    · rw [if_pos hb] at q; cases q
    · rw [if_neg hb] at q; exact q
  · intro p hp; rw [List.mem_singleton.mp hp]; exact hg.ns
  · intro p hp
    rcases List.mem_cons.mp hp with rfl | hp
    · exact hg.own _ (.head _)
    · rw [List.mem_singleton.mp hp]; exact hg.own _ (.tail _ (.head _))
  · intro a ha; exact if_pos ha
  · intro a ha; exact .inr ha
theorem bs_str : Str.ofString "\\" = ⟨#[92]⟩ := by decide +kernel
theorem esc_str (c : Nat) : Str.ofString "\\" ++ (⟨#[c]⟩ : Str) = ⟨[92, c].toArray⟩ := by
  rw [bs_str]
  show Str.append _ _ = _
  simp [Str.append]
theorem rev_at {α : Type} (pre r : List α) (u : α) : (pre ++ u :: r).reverse[r.length]? = some u := by
  simp [List.reverse_append]
theorem bs_eq (c : Nat) : ((⟨#[c]⟩ : Str) == Str.ofString "\\") = (c == 92) := by
  rw [bs_str]
  by_cases h : c = 92
  · subst h; decide
  · have h1 : (⟨#[c]⟩ : Str) ≠ ⟨#[92]⟩ := fun e => h (by simpa using e)
    rw [beq_eq_false_iff_ne.mpr h1, beq_eq_false_iff_ne.mpr h]
theorem fresh_off {L a : Addr} {r : List Addr} (h : ([L] ++ a :: r).Nodup) : a ∉ L :: r := fun q => by
  simp only [List.singleton_append, List.nodup_cons, List.mem_cons, not_or] at h
  rcases List.mem_cons.mp q with q | q
  · exact h.1.1 q.symm
  · exact h.2.1 q
theorem loop_seg (B : Base w H) (hr : Rm A 10) (hx : x.cps.all (· < 128) = true) (hxl : x.length ≤ 10000) (hie : it < e) (hnd : [L, e, it].Nodup) (hH : ∀ a ∈ [L, e, it], H.get? a = none)
    {kk : Result → Sem PySem.Fin} {H0 : Value → Sem PySem.Fin} {fb : List Stmt} {p : Pos}
    (hkk : kk (.ok .next) = (execs (itRest w.params) (itEnv w L)).wrap itK H0 id id) :
    ∀ k i esc us, x.cps.size - i = k → i ≤ x.cps.size → us = unitsFrom i esc (x.cps.toList.drop i) → (∃ pre, pre ++ us = U) → (esc = true → 0 < i) →
      ∀ T', (∀ a ∈ T', a ∈ [L, e, it]) → ∀ s₀ G Z Z0 s m old io, S w ⟨H, s₀, T', Z0⟩ G Z [((itEnv w L).locals, m)] [(e, enumObj it i old), (it, io)] s → IterObj io x tx i → s₀.gens = G → m (Str.ofString "escape") = some (.bool esc) →
      (0 < i → ∃ t, m (Str.ofString "pos") = some (.int ((i - 1 : Nat) : Int) t)) →
      Seg (model PG w) A (RRe [L, e, it]) (YY H L e it U) us.length s₀ (.forLoop (itTgt w.params) (.ref e) (itLoop w.params) [] (itEnv w L)) ((model PG w).den (.forLoop (itTgt w.params) (.ref e) (itLoop w.params) [] (itEnv w L)))
        [.ret kk none false [] (.func fb (itEnv w L)) p []] s := by
  intro k
  induction k with
  | zero =>
    intro i esc us hk hi hus hpre hesc T' hT' s₀ G Z Z0 s m old io hS hio hgs hme hmp
    have hi' : i = x.cps.size := by omega
    subst hi'
    have hdrop : x.cps.toList.drop x.cps.size = [] := by simp
    rw [hdrop] at hus
    have hr' := (hr.le (show 3 ≤ 10 by omega)).loop (tgt := itTgt w.params) (it := .ref e) (b := itLoop w.params) (env := itEnv w L) (env' := itEnv w L) (fb := fb) (kk := kk) (g := false) (lv := []) (p := p)
    refine sg_forLoop ?_
    refine enum_ascii_end hr'.handled (hS.own' (.head _)) ⟨io, hS.own' (.tail _ (.head _)), hio.1, hio.2⟩ (by simp) (fun h' he ⟨io', hio'⟩ => ?_)
    have hie1 : e ≠ it := Nat.ne_of_gt hie
    have hS1 := hS.chg (h' := h') (l' := [(e, enumObj it x.cps.size old), (it, io')]) [it] s.toks (by simp) (fun b o hb q => he b o (fun z => hb (by simp [z])) q) (by
        intro p hp
        rcases List.mem_cons.mp hp with rfl | hp
        · exact he _ _ hie1 (hS.own' (.head _))
        · rw [List.mem_singleton.mp hp]; exact hio') (by
        intro p hp
        rcases List.mem_cons.mp hp with rfl | hp
        · exact .inl (.head _)
        · rw [List.mem_singleton.mp hp]; exact .inl (.tail _ (.head _))) (by simp [hie1]) (by
        intro a ha; rw [List.mem_singleton.mp ha]; exact ⟨_, hio'⟩)
    refine seg_leaf (r := .ok .next) ?_
    rw [hkk]
    have hrf := (hr.le (show 3 ≤ 10 by omega)).func (fb := fb) (env := itEnv w L)
    show Seg _ A _ _ _ s₀ _ ((execs (itRest w.params) (itEnv w L)).wrap itK H0 id id) [] _
    refine seg_execs_cons (sg_If ?_)
    refine isTrue_plain (ld hS1 hme (wpAny_truthy_bool ?_))
    cases esc with
    | false =>
      subst hus
      show Seg _ A _ _ 0 s₀ _ _ _ _
      refine seg_execs_nil (seg_execs_nil (seg_end (.ok (.ret .none)) ⟨rfl, rfl, hS1.os, hS1.gens.trans hgs.symm, fun b o hb => hS1.keep b o fun q => hb (hT' b q)⟩))
    | true =>
      have hi0 := hesc rfl
      obtain ⟨tp, hmp⟩ := hmp hi0
      subst hus
      show Seg _ A _ _ (0 + 1) s₀ _ _ _ _
      refine seg_execs_cons (seg_Expr_Yield rfl rfl rfl ?_)
      refine mk_tuple (args_cons (ld hS1 hmp (args_one (con_str hS1 fun t s2 hS2 => ⟨_, _, _, _, _, hS2, (by show 2 ≤ sizeLine; decide), fun a s3 ha hS3 => ?_⟩))))
      intro kap hkap
      obtain ⟨pre, hpre⟩ := hpre
      refine ⟨(x.cps.size - 1, [92]), a, _, _, _, [(e, enumObj it x.cps.size old), (it, io')], ?_, rfl, hS3.own' (.head _), ha, fresh_off hS3.nd, rfl, ⟨fun b o q => hS3.z b o (hS3.zb b o q), hS3.nss _ (.head _), fun p hp => hS3.own p (.tail _ hp)⟩, ?_, hS3.os, hS3.gens.trans hgs.symm, fun s'' _ _ => hkap .none s'' ?_⟩
      · rw [← hpre]; simp [unitsFrom]
      · exact fun b o hb q => hS3.keep b o (fun z => hb (hT' b z)) q
      · exact seg_execs_nil (seg_execs_nil (seg_end (.ok (.ret .none)) ⟨rfl, rfl, rfl, rfl, fun b o _ q => q⟩))
  | succ k ih =>
    intro i esc us hk hi hus hpre hesc T' hT' s₀ G Z Z0 s m old io hS hio hgs hme hmp
    have hlt : i < x.cps.size := by omega
    obtain ⟨c, hc⟩ : ∃ c, x.cps[i]? = some c := ⟨x.cps[i], by simp [hlt]⟩
    have hdrop : x.cps.toList.drop i = c :: x.cps.toList.drop (i + 1) := by
      rw [List.drop_eq_getElem_cons (by simpa using hlt)]
      have : x.cps.toList[i]'(by simpa using hlt) = c := by
        have h1 := hc; rw [Array.getElem?_eq_getElem hlt] at h1; simpa using h1
      rw [this]
    rw [hdrop] at hus
    have hr' := (hr.le (show 3 ≤ 10 by omega)).loop (tgt := itTgt w.params) (it := .ref e) (b := itLoop w.params) (env := itEnv w L) (env' := itEnv w L) (fb := fb) (kk := kk) (g := false) (lv := []) (p := p)
    refine sg_forLoop ?_
    have D := (Draws.strAscii (prog := PG) (w := w) (A := (A.over (.forLoop (itTgt w.params) (.ref e) (itLoop w.params) [] (itEnv w L)) [.ret kk none false [] (.func fb (itEnv w L)) p []]).in1) (hr'.in1.handled) it x tx)
    have hie1 : e ≠ it := Nat.ne_of_gt hie
    refine wpAny_pyNext_enum_itemD D (hS.own' (.head _)) ⟨io, hS.own' (.tail _ (.head _)), hio.1, hio.2⟩ hlt hie1 (fun q => hie1 (List.mem_singleton.mp q)) ?_
    rintro v h' tk ⟨c', u, hc', rfl⟩ hen ⟨io', hio', hioc⟩ hT hsz hkeep
    have : c' = c := by rw [hc] at hc'; exact (Option.some.inj hc').symm
    subst this
    have hS1 : S w ⟨H, s₀, T', Z0⟩ G Z [((itEnv w L).locals, m)] [(s.heap.objs.size, tupObj [.int i tk, .str ⟨#[c']⟩ u]), (e, _), (it, io')] { s with heap := h', toks := tk + 1 } :=
      hS.chg [e, it] (tk + 1) (by simp) (fun b o hb q => hkeep b o (fun z => hb (by simp [z])) (fun z => hb (by simp [z])) q) (by
        intro p hp
        rcases List.mem_cons.mp hp with rfl | hp
        · exact hT
        · rcases List.mem_cons.mp hp with rfl | hp
          · exact hen
          · rw [List.mem_singleton.mp hp]; exact hio') (by
        intro p hp
        rcases List.mem_cons.mp hp with rfl | hp
        · refine .inr ?_
          cases q : s.heap.get? s.heap.objs.size with
          | none => rfl
          | some o => exact absurd (Heap.lt_size q) (Nat.lt_irrefl _)
        · rcases List.mem_cons.mp hp with rfl | hp
          · exact .inl (.head _)
          · rw [List.mem_singleton.mp hp]; exact .inl (.tail _ (.head _))) (by
        have h1 := hS.lt e (List.mem_append_right _ (.head _))
        have h2 := hS.lt it (List.mem_append_right _ (.tail _ (.head _)))
        simp only [List.map_cons, List.map_nil, List.nodup_cons, List.mem_cons, List.not_mem_nil, or_false, not_or, not_false_eq_true, List.nodup_nil, and_true]
        exact ⟨⟨Nat.ne_of_gt h1, Nat.ne_of_gt h2⟩, hie1⟩) (by
        intro a ha
        rcases List.mem_cons.mp ha with rfl | ha
        · exact ⟨_, hen⟩
        · rw [List.mem_singleton.mp ha]; exact ⟨_, hio'⟩)
    refine wpAny_letOwnedTupleGo_enum hen fun h2 hen2 hs2 => ?_
    have hS2 := hS1.sameBut (.tail .head) hs2 hen2
    refine assign_two hr'.handled hS2 (hS2.own' (.head _)) fun s3 hS3 => ?_
    have hS3 := hS3.sub (.refl _) (.cons _ (.refl _))
    refine seg_execs_cons (sg_If ?_)
    refine isTrue_plain (ld hS3 (by walk_at "lk") (wpAny_truthy_bool ?_))
    have hS3 : S w ⟨H, s₀, T', Z0⟩ G Z [((itEnv w L).locals, _)] [(e, enumObj it (i + 1) (.str ⟨#[c']⟩ u)), (it, io')] s3 := hS3
    have hioc : IterObj io' x tx (i + 1) := hioc
    cases esc with
    | true =>
      rw [unitsFrom] at hus
      subst hus
      show Seg _ A _ _ ((unitsFrom (i + 1) false (x.cps.toList.drop (i + 1))).length + 1) s₀ _ _ _ _
      refine seg_execs_cons (seg_Expr_Yield rfl rfl rfl ?_)
      refine mk_tuple (args_cons (ld hS3 (by walk_at "lk") (args_one (wpAny_BinOp (con_str hS3 fun t s4 hS4 => ld hS4 put (add_str' hS4 (by show 1 + 1 ≤ sizeLine; decide) fun t' s5 hS5 => ⟨_, _, _, _, _, hS5, (by show 2 ≤ sizeLine; decide), fun a s6 ha hS6 => ?_⟩))))))
      rw [esc_str] at hS6
      intro kap hkap
      obtain ⟨pre, hpre⟩ := hpre
      refine ⟨(i, [92, c']), a, tk, t', _, [(e, enumObj it (i + 1) (.str ⟨#[c']⟩ u)), (it, io')], ?_, rfl, hS6.own' (.head _), ha, fresh_off hS6.nd, rfl, ⟨fun b o q => hS6.z b o (hS6.zb b o q), hS6.nss _ (.head _), fun p hp => hS6.own p (.tail _ hp)⟩, fun b o hb q => hS6.keep b o (fun z => hb (hT' b z)) q, hS6.os, hS6.gens.trans hgs.symm, fun s'' hFF hbr => hkap .none s'' ?_⟩
      · rw [← hpre]; exact rev_at _ _ _
      · have hW := S.wake B hFF hbr hnd hH
        refine seg_execs_cons (sg_stmt (wpAny_Assign_Name (con_bool (st hW fun s7 hS7 => ?_))))
        refine seg_execs_nil (seg_execs_nil (seg_again rfl ?_))
        exact ih (i + 1) false _ (by omega) (by omega) rfl ⟨pre ++ [(i, [92, c'])], by rw [← hpre]; simp⟩ (fun h => nomatch h) [L, e, it] (fun _ h => h) s'' _ _ _ _ _ _ _ hS7 hioc rfl (by walk_at "lk") (fun _ => ⟨tk, by rw [Nat.add_sub_cancel]; walk_at "lk"⟩)
    | false =>
      refine seg_execs_cons (sg_If ?_)
      refine wpAny_isTrue_Compare1 (ld hS3 put (con_str hS3 fun t s4 hS4 => PyProof.Rows.eq_str (wpAny_truthy_bool ?_)))
      rw [bs_eq]
      by_cases h92 : c' = 92
      · subst h92
        rw [unitsFrom, if_pos rfl] at hus
        show Seg _ A _ _ _ s₀ _ _ _ _
        refine seg_execs_cons (sg_stmt (wpAny_Assign_Name (con_bool (st hS4 fun s7 hS7 => ?_))))
        refine seg_execs_nil (seg_execs_nil (seg_execs_nil (seg_again rfl ?_)))
        exact ih (i + 1) true us (by omega) (by omega) hus hpre (fun _ => Nat.succ_pos _) T' hT' s₀ _ _ _ _ _ _ _ hS7 hioc hgs (by walk_at "lk") (fun _ => ⟨tk, by rw [Nat.add_sub_cancel]; walk_at "lk"⟩)
      · rw [unitsFrom, if_neg h92] at hus
        rw [show (c' == 92) = false from beq_eq_false_iff_ne.mpr h92]
        subst hus
        show Seg _ A _ _ ((unitsFrom (i + 1) false (x.cps.toList.drop (i + 1))).length + 1) s₀ _ _ _ _
        refine seg_execs_cons (seg_Expr_Yield rfl rfl rfl ?_)
        refine mk_tuple (args_cons (ld hS4 (by walk_at "lk") (args_one (ld hS4 put ⟨_, _, _, _, _, hS4, (by show 2 ≤ sizeLine; decide), fun a s6 ha hS6 => ?_⟩))))
        intro kap hkap
        obtain ⟨pre, hpre⟩ := hpre
        refine ⟨(i, [c']), a, tk, u, _, [(e, enumObj it (i + 1) (.str ⟨#[c']⟩ u)), (it, io')], ?_, rfl, hS6.own' (.head _), ha, fresh_off hS6.nd, rfl, ⟨fun b o q => hS6.z b o (hS6.zb b o q), hS6.nss _ (.head _), fun p hp => hS6.own p (.tail _ hp)⟩, fun b o hb q => hS6.keep b o (fun z => hb (hT' b z)) q, hS6.os, hS6.gens.trans hgs.symm, fun s'' hFF hbr => hkap .none s'' ?_⟩
        · rw [← hpre]; exact rev_at _ _ _
        · have hW := S.wake B hFF hbr hnd hH
          refine seg_execs_nil (seg_execs_nil (seg_execs_nil (seg_again rfl ?_)))
          exact ih (i + 1) false _ (by omega) (by omega) rfl ⟨pre ++ [(i, [c'])], by rw [← hpre]; simp⟩ (fun h => nomatch h) [L, e, it] (fun _ h => h) s'' _ _ _ _ _ _ _ hW hioc rfl (by walk_at "lk") (fun _ => ⟨tk, by rw [Nat.add_sub_cancel]; walk_at "lk"⟩)
end
noncomputable abbrev genObj (g : Nat) (n q : Value) : Obj := { cls := .type "generator", data := .fields #[.int (g : Int) 0, n, q] }
theorem genObj_is {h : Heap} {a : Addr} {g : Nat} {n q : Value} (e : h.get? a = some (genObj g n q)) : h.IsGen a g := ⟨_, n, q, e, rfl, rfl, rfl⟩
/-- pyNext of a generator function's generator; what it leaves is bare -/
theorem pyNext_genQ {prog : Program} {w : World} {A : Around} {E : Value → Shared → Prop} {s : Shared} {a : Addr} {g n : Nat} {gs : GenState} {P : Nat → Shared → Shared → Prop} {Y : Protocol} {Q : Option Value → Shared → Prop} (hh : A.handled = none)
    (hl : s.heap.NoLimit) (hroom : A.depth < recursionLimit) (hg : s.heap.IsGen a g) (hgs : s.gens[g]? = some gs)
    (hgo : gs.Goes (model prog w) A.in1 (fun n s₀ r s₁ => r = .ok (.ret .none) ∧ P n s₀ s₁) Y n (.send .none) (s.setGen g .running))
    (hY : ∀ v s₁ gs', gs'.bare = true → Y (n - 1) (s.setGen g .running) v s₁ (fun r' s'' => match n with
        | 0 => False
        | m + 1 => gs'.Goes (model prog w) A.in1 (fun n s₀ r s₁ => r = .ok (.ret .none) ∧ P n s₀ s₁) Y m r' s'') → Q (some v) (s₁.setGen g gs'))
    (hP : ∀ s₁, P n (s.setGen g .running) s₁ → ∀ h', (∀ b o, s₁.heap.get? b = some o → h'.get? b = some o) → Q none { s₁.setGen g .finished with heap := h' }) :
    wpAny (model prog w) A (pyNext (.ref a)) Q E s := by
  unfold pyNext
  refine wpAny_bind (wpAny_attempt (wpAny_callSpecial?_slot (name := Str.ofString "__next__") hg.typeIs slot_gen_next
    (wpAny_call_entry slot_gen_next hg.typeIs entry_gen_next ?_ (args_gen_next _))))
  show wpAny _ A.in1 (Builtin.Generator.genWake (.ref a) (.send .none)) _ _ s
  unfold Builtin.Generator.genWake
  refine wpAny_bind (wpAny_holding (wpAny_genNumber hg (wpAny_bind (wpAny_genState hgs ?_))))
  cases gs with
  | running => exact hgo.elim
  | finished => exact hgo.elim
  | _ =>
    refine wpAny_bind (wpAny_roomToWake hl hroom ?_)
    show wpAny _ A.in1 (.resume g (.send .none) [] _) _ _ s
    refine wpAny_resumeQ hgs hgo (fun x s₁ hx => ?_) (fun v s₁ gs' hb hv => ?_)
    · obtain ⟨rfl, hp⟩ := hx
      show wpAny _ A.in1 (newExc (.type "StopIteration") [] >>= _) _ _ _
      refine wpAny_bind ?_
      simp only [newExc, newTuple]
      refine wpAny_bind (wpAny_newObj_type ?_ (by size_fits))
      refine wpAny_bind (m := firstArgMember _ _) (wpAny_of_eq (a := Value.none) (by first | rfl | (simp only [firstArgMember]; rfl)) ?_)
      refine wpAny_newObj_type ?_ (by size_fits)
      simp only [raiseNew]
      refine wpAny_bind (wpAny_bind (wpAny_handled ?_))
      rw [show A.in1.handled = none from hh]
      refine wpAny_throw ?_
      refine wpAny_bind (wpAny_isInstance (T := "StopIteration") (b := true) ⟨_, Heap.get?_push_size _ rfl, rfl⟩ isSubtype_stop ?_)
      exact wpAny_pure (hP s₁ hp _ fun b o hb => Heap.get?_push_of_some _ (Heap.get?_push_of_some _ hb))
    · exact wpAny_pure ⟨v, rfl, wpAny_pure (hY v s₁ gs' hb hv)⟩
/-- what stands of a generator: the units that are left, its namespace, its own objects -/
noncomputable def GenIs (w : World) (A : Around) (H : Heap) (G : Array GenState) (g : Nat) (L : Addr) (x : Str) (us : List (Nat × List Nat)) (m : Str → Option Value) (gl : List (Addr × Obj)) : Prop :=
  (gl = [] ∧ us = unitsFrom 0 false x.cps.toList ∧ G[g]? = some (.fresh (.func (bodyAt w.params 193) (itEnv w L))) ∧ ∃ t, m = fun y => [(Str.ofString "addr", Value.str x t)].reverse.lookup y) ∨
  (∃ e it U, [L, e, it].Nodup ∧ gl.map (·.1) = [e, it] ∧ (∃ pre, pre ++ us = U) ∧
    ∃ gs, G[g]? = some gs ∧ ∀ s'', FF H L m gl s''.heap → AllBare s''.gens → gs.Goes (model PG w) A.in1 (RRe [L, e, it]) (YY H L e it U) us.length (.send .none) s'')
section
variable {w : World} {c : Ctx0} {G : Array GenState} {Z : Zone} {r : List (Addr × (Str → Option Value))} {l : List (Addr × Obj)} {s : Shared} {A : Around} {E : Value → Shared → Prop} {p : Addr × (Str → Option Value)}
theorem iter_call {x : Str} {t : Tok} {Q : Value → Shared → Prop} (hr : Rm A 3) (h : S w c G Z (p :: r) l s)
    (k : ∀ a L m' G' g nm qn s', S w c G' Z (p :: (L, m') :: r) ((a, genObj g nm qn) :: l) s' → GenIs w A c.H G' g L x (unitsFrom 0 false x.cps.toList) m' [] → c.sc.heap.get? a = none → Q (.ref a) s') :
    wpAny (model PG w) A (call (.ref 193) [.str x t]) Q E s := by
  have h1 : (KF w).lookup 193 = some (obAt w.params 193) := by kernel_rfl
  have h2 : (obAt w.params 193).data = .func (fdAt w.params 193) := by kernel_rfl
  have h3 : codeIn (KF w) (fdAt w.params 193).code (fdAt w.params 193).qualname = true := by kernel_rfl
  have h4 : (fdAt w.params 193).body = .stmts (bodyAt w.params 193) := by kernel_rfl
  have h5 : bindArgs (fdAt w.params 193) ⟨[.str x t], []⟩ = pure [(Str.ofString "addr", .str x t)] := by kernel_rfl
  have h6 : ((fdAt w.params 193).scope.names.all fun x => !(x.2 == .cell)) = true := by kernel_rfl
  have h7 : ([(Str.ofString "addr", Value.str x t)].all fun x => (fdAt w.params 193).scope.names.lookup x.1 == some .local) = true := by kernel_rfl
  refine wpAny_call (codeAny_call_generator hr.lt (h.kin _ _ h1) h2 (by kernel_rfl) (by kernel_rfl) h4 (codeRec_of h.kin h3) ?_)
  rw [h5]
  refine wpAny_pure (wpAny_newFunctionEnv (fun x hx q => by have := List.all_eq_true.mp h6 x hx; rw [q] at this; exact absurd this (by decide)) (fun x hx => by simpa using List.all_eq_true.mp h7 x hx) (fun h₁ hns hsb => ?_) (by kernel_rfl))
  have hk : ∀ b o, s.heap.get? b = some o → h₁.get? b = some o := fun b o e => hsb.extBut b o (Nat.ne_of_lt (Heap.lt_size e)) (Heap.get?_push_of_some _ e)
  have hS1 := h.newNs (m := fun y => [(Str.ofString "addr", Value.str x t)].reverse.lookup y) hns hk (s.toks + 1)
  refine ⟨hS1.lim, ?_⟩
  have hS2 := (hS1.push (genObj s.gens.size (.str (fdAt w.params 193).name (s.toks + 1)) (.str (fdAt w.params 193).qualname (s.toks + 1 + 1))) rfl).toks (s.toks + 1 + 1 + 1)
  have hbare : AllBare (s.gens.push (.fresh (.func (bodyAt w.params 193) (itEnv w s.heap.objs.size)))) := (show AllBare s.gens from h.gens ▸ h.bare).push rfl
  have hS3 := hS2.setG hbare
  refine k _ _ _ _ s.gens.size _ _ _ hS3 (.inl ⟨rfl, rfl, ?_, t, rfl⟩) hS1.new
  simp
end
theorem goes_fresh {w : World} {H : Heap} {A : Around} {L : Addr} {x : Str} {t : Tok} {s : Shared} (B : Base w H) (hr : Rm A 12) (hx : x.cps.all (· < 128) = true) (hxl : x.length ≤ 10000)
    (hH : ∀ b o, H.get? b = some o → s.heap.get? b = some o) (hL : s.heap.Ns L (fun y => [(Str.ofString "addr", Value.str x t)].reverse.lookup y)) (hHL : H.get? L = none) (hb : AllBare s.gens) :
    (GenState.fresh (.func (bodyAt w.params 193) (itEnv w L))).Goes (model PG w) A (RRe [L, s.heap.objs.size + 1, s.heap.objs.size]) (YY H L (s.heap.objs.size + 1) s.heap.objs.size (unitsFrom 0 false x.cps.toList)) (unitsFrom 0 false x.cps.toList).length (.send .none) s := by
  refine ⟨rfl, seg_func ?_⟩
  have hlt := hL.lt
  have hS : S w ⟨H, s, [L], aliveZone s [L]⟩ s.gens (aliveZone s [L]) [((itEnv w L).locals, fun y => [(Str.ofString "addr", Value.str x t)].reverse.lookup y)] [] s := by
    refine ⟨⟨B, fun b o q => ?_, fun b o q => ?_, .refl _, fun _ _ _ => rfl, fun b o _ q => q, fun b hb => ?_, rfl, rfl, hb⟩, ?_, fun p hp => (nomatch hp), fun a ha => if_pos ha, (by simp), fun a ha => .inr ha⟩
    · unfold aliveZone
      rw [if_neg fun hb => by rw [List.mem_singleton.mp hb, hHL] at q; cases q]
      exact hH b o q
    · unfold aliveZone at q
      by_cases hb : b ∈ [L]
      · rw [if_pos hb] at q; cases q
      · rw [if_neg hb] at q; exact q
    · rw [List.mem_singleton.mp hb]; obtain ⟨o, _, _, q, _⟩ := hL; exact ⟨L, o, Nat.le_refl _, q⟩
    · intro p hp; rw [List.mem_singleton.mp hp]; exact hL
  have hrf := (hr.le (show 3 ≤ 12 by omega)).func (fb := bodyAt w.params 193) (env := itEnv w L)
  refine seg_execs_cons (sg_stmt (wpAny_Assign_Name (wpAny_Constant_int (wpAny_storeName_local (by kernel_rfl) (hS.nss _ (.head _)) (fun h1 hn1 hs1 => ?_) (by kernel_rfl)))))
  have hS1 := (hS.nsSet hn1 hs1).toks (s.toks + 1 + 1)
  refine seg_execs_cons (sg_stmt (wpAny_Assign_Name (con_bool (wpAny_storeName_local (by kernel_rfl) hn1 (fun h2 hn2 hs2 => ?_) (by kernel_rfl)))))
  have hS2 := (hS1.nsSet hn2 hs2).toks (s.toks + 1 + 1 + 1)
  have hz2 : h2.objs.size = s.heap.objs.size := hs2.1.trans hs1.1
  refine seg_execs_cons (sg_For ?_ (fun _ => rfl))
  refine callT (T := "enumerate") (is_ldb hS2.toZ0 (by kernel_rfl) (by kernel_rfl) (args_one (ld hS2 (v := .str x t) (by walk_at "lk") ?_)))
  refine call_enumerate_str fun h3 hen hit hz3 hk3 => ?_
  have hz2' : (({ s with heap := h2, toks := s.toks + 1 + 1 + 1 } : Shared).heap.objs.size) = s.heap.objs.size := hz2
  rw [hz2'] at hen hit hz3 ⊢
  show wpAny (model PG w) _ (pyIter (.ref (s.heap.objs.size + 1))) _ _ { s with heap := h3, toks := s.toks + 1 + 1 + 1 }
  refine wpAny_pyIter_enum hen fun p => ?_
  rw [strIterType, if_pos hx] at hit
  obtain ⟨io, hio, hioc, hiod⟩ := hit
  have hal2 : ∀ b o, h2.get? b = some o → b < s.heap.objs.size := fun b o e => hz2 ▸ Heap.lt_size e
  have none2 : ∀ b, s.heap.objs.size ≤ b → h2.get? b = none := fun b hb => by
    cases e : h2.get? b with
    | none => rfl
    | some o => exact absurd (hal2 b o e) (Nat.not_lt.mpr hb)
  have hS3 := hS2.chg (h' := h3) (l' := [(s.heap.objs.size + 1, enumObj s.heap.objs.size 0 .none), (s.heap.objs.size, io)]) [] (s.toks + 1 + 1 + 1) (fun _ q => nomatch q) (fun b o _ e => hk3 b o e) (by
      intro p hp
      rcases List.mem_cons.mp hp with rfl | hp
      · exact hen
      · rw [List.mem_singleton.mp hp]; exact hio) (by
      intro p hp
      rcases List.mem_cons.mp hp with rfl | hp
      · exact .inr (none2 _ (Nat.le_succ _))
      · rw [List.mem_singleton.mp hp]; exact .inr (none2 _ (Nat.le_refl _))) (by simp) (fun _ q => nomatch q)
  have hHn : ∀ b, s.heap.objs.size ≤ b → H.get? b = none := fun b hb => by
    cases e : H.get? b with
    | none => rfl
    | some o => exact absurd (Heap.lt_size (hH b o e)) (Nat.not_lt.mpr hb)
  have hnd : [L, s.heap.objs.size + 1, s.heap.objs.size].Nodup := by
    simp only [List.nodup_cons, List.mem_cons, List.not_mem_nil, or_false, not_or, not_false_eq_true, List.nodup_nil, and_true]
    exact ⟨⟨Nat.ne_of_lt (Nat.lt_succ_of_lt hlt), Nat.ne_of_lt hlt⟩, Nat.succ_ne_self _⟩
  refine loop_seg (x := x) (tx := t) B (hr.le (by omega)) hx hxl (Nat.lt_succ_self _) hnd ?_ (kk := _) (H0 := fun e => (leaving (itEnv w L) e).wrap (fun _ => .raise e) .raise id id) (fb := _) (p := p) ?_ x.cps.size 0 false _ rfl (Nat.zero_le _) rfl ⟨[], rfl⟩ (fun h => nomatch h) [L] (fun a ha => by simp at ha; simp [ha]) s _ _ _ _ _ _ io hS3 ⟨hioc, hiod⟩ rfl (by walk_at "lk") (fun h => absurd h (Nat.lt_irrefl _))
  · intro a ha
    rcases List.mem_cons.mp ha with rfl | ha
    · exact hHL
    · rcases List.mem_cons.mp ha with rfl | ha
      · exact hHn _ (Nat.le_succ _)
      · rw [List.mem_singleton.mp ha]; exact hHn _ (Nat.le_refl _)
  · kernel_rfl
section
variable {w : World} {c : Ctx0} {G : Array GenState} {Z : Zone} {r : List (Addr × (Str → Option Value))} {l : List (Addr × Obj)} {s : Shared} {A : Around} {E : Value → Shared → Prop} {p : Addr × (Str → Option Value)}
theorem get_set {gens : Array GenState} {g : Nat} {x y : GenState} (h : gens[g]? = some x) : (gens.setIfInBounds g y)[g]? = some y := by
  have hlt : g < gens.size := by
    by_cases hg : g < gens.size
    · exact hg
    · rw [Array.getElem?_eq_none (Nat.le_of_not_lt hg)] at h; cases h
  simp [hlt]
theorem bare_set {gens : Array GenState} {g : Nat} {y : GenState} (h : AllBare gens) (hy : y.bare = true) : AllBare (gens.setIfInBounds g y) := fun z hz => by
  obtain ⟨i, hi, rfl⟩ := Array.mem_iff_getElem.mp hz
  by_cases e : g = i
  · subst e; simp [hy]
  · simp only [Array.size_setIfInBounds] at hi
    rw [Array.getElem_setIfInBounds_ne hi e]
    exact h _ (Array.getElem_mem hi)
/-- a generator is asked for its next -/
theorem gen_next {x : Str} {a g L : Nat} {m : Str → Option Value} {gl : List (Addr × Obj)} {us : List (Nat × List Nat)} {nm qn : Value} {Q : Option Value → Shared → Prop} (hr : Rm A 14) (hx : x.cps.all (· < 128) = true) (hxl : x.length ≤ 10000)
    (h : S w c G Z (p :: (L, m) :: r) (l ++ gl) s) (hT : c.T = []) (ha : (a, genObj g nm qn) ∈ l) (hI : GenIs w A c.H G g L x us m gl)
    (kn : us = [] → ∀ s' G', S w c G' Z (p :: r) l s' → Q none s')
    (ks : ∀ u us', us = u :: us' → ∀ b s' G' m' gl' t t', S w c G' (Z.put b (unitObj u t t')) (p :: (L, m') :: r) (l ++ gl') s' → GenIs w A c.H G' g L x us' m' gl' → Z b = none → c.sc.heap.get? b = none → Q (some (.ref b)) s') :
    wpAny (model PG w) A (pyNext (.ref a)) Q E s := by
  have hga := genObj_is (h.own' (List.mem_append_left _ ha))
  -- one road for both kinds
  have key : ∀ e it U gs, s.gens[g]? = some gs → [L, e, it].Nodup → (∃ pre, pre ++ us = U) → (∀ b ∈ [e, it], b ∈ gl.map (·.1) ∨ s.heap.get? b = none) →
      (us ≠ [] ∨ True) → gs.Goes (model PG w) A.in1 (RRe [L, e, it]) (YY c.H L e it U) us.length (.send .none) (s.setGen g .running) → wpAny (model PG w) A (pyNext (.ref a)) Q E s := by
    intro e it U gs hgs hnd hpre hold _ hgo
    have hGg : G[g]? = some gs := h.gens ▸ hgs
    refine pyNext_genQ (P := fun n s₀ s₁ => n = 0 ∧ s₁.os = s₀.os ∧ s₁.gens = s₀.gens ∧ (∀ b o, b ∉ [L, e, it] → s₀.heap.get? b = some o → s₁.heap.get? b = some o)) (Y := YY c.H L e it U) (n := us.length) hr.handled h.lim hr.lt hga hgs hgo ?_ ?_
    · intro v s₁ gs' hb hY
      obtain ⟨u, b, t, t', m', gl', hU, rfl, hbo, hbn, hboff, hfull, hFF, hkeep, hos, hgens, hkap⟩ := hY
      obtain ⟨pre, hpre⟩ := hpre
      cases us with
      | nil =>
        exfalso
        exact hkap s₁ hFF (by
          rw [hgens]; exact bare_set (show AllBare s.gens from h.gens ▸ h.bare) rfl)
      | cons u₀ us' =>
        have hu : u = u₀ := by
          rw [← hpre] at hU
          have := rev_at pre us' u₀
          have e2 : (u₀ :: us').length - 1 = us'.length := by simp
          rw [e2, this] at hU
          exact (Option.some.inj hU).symm
        subst hu
        have hsub' : ∀ a ∈ gl'.map (·.1), a ∈ [e, it] := fun a ha => hfull ▸ ha
        have hS1 := h.gen hT (h' := s₁.heap) (m' := m') (gl' := gl') [e, it] s₁.toks (fun b o hb q => hkeep b o hb q) hold hFF.ns hFF.own hsub' (hfull ▸ (List.nodup_cons.mp hnd).2)
        have hS2 := hS1.setG (G' := s₁.gens.setIfInBounds g gs') (bare_set (by rw [hgens]; exact bare_set (show AllBare s.gens from h.gens ▸ h.bare) rfl) hb)
        have hS3 : S w c _ Z (p :: (L, m') :: r) (l ++ gl') (s₁.setGen g gs') := hS2.same rfl rfl hos
        have hbZ : Z b = none := by
          cases q : Z b with
          | none => rfl
          | some o =>
            have q' : s.heap.get? b = some o := h.z _ _ q
            have : s.heap.get? b = none := hbn
            rw [q'] at this; cases this
        have hbc : c.sc.heap.get? b = none := by
          cases q : c.sc.heap.get? b with
          | none => rfl
          | some o =>
            have q' := h.keep b o (by rw [hT]; exact fun z => nomatch z) q
            have : s.heap.get? b = none := hbn
            rw [q'] at this; cases this
        have hS4 := hS3.adopt (a := b) (o := unitObj u t t') hbo hbZ hbc (fun q => by
          simp only [List.map_cons, List.map_append, List.cons_append, List.mem_cons, List.mem_append] at q
          have no : b ∈ (p :: (L, m) :: r).map (·.1) ++ (l ++ gl).map (·.1) → False := fun q => by
            obtain ⟨o, e⟩ := h.alive b q
            have : s.heap.get? b = none := hbn
            rw [e] at this; cases this
          simp only [List.map_cons, List.map_append, List.cons_append, List.mem_cons, List.mem_append] at no
          rcases q with q | q | q | q | q
          · exact no (.inl q)
          · exact no (.inr (.inl q))
          · exact no (.inr (.inr (.inl q)))
          · exact no (.inr (.inr (.inr (.inl q))))
          · exact hboff (.tail _ q))
        refine ks u us' rfl b _ _ m' gl' t t' hS4 (.inr ⟨e, it, U, hnd, hfull, ⟨pre ++ [u], by rw [← hpre]; simp⟩, gs', ?_, fun s'' hF hB => ?_⟩) hbZ hbc
        · rw [hgens]; exact get_set (get_set hgs)
        · exact hkap s'' hF hB
    · intro s₁ hP h' hk'
      obtain ⟨hn0, hos, hgens, hkeep⟩ := hP
      refine kn (List.length_eq_zero_iff.mp hn0) _ (s₁.gens.setIfInBounds g .finished) ?_
      have hh : ∀ b o, b ∉ [L, e, it] → s.heap.get? b = some o → h'.get? b = some o := fun b o hb q => hk' b o (hkeep b o hb q)
      have hS1 := (h.lose hT (gl := gl) (h' := h') [e, it] s₁.toks hh hold).setG (G' := s₁.gens.setIfInBounds g .finished) (bare_set (by rw [hgens]; exact bare_set (show AllBare s.gens from h.gens ▸ h.bare) rfl) rfl)
      exact hS1.same rfl rfl hos
  rcases hI with ⟨rfl, hus, hfr, t, rfl⟩ | ⟨e, it, U, hnd, hfull, hpre, gs, hgs, hgo⟩
  · have hL := h.nss (L, _) (.tail _ (.head _))
    have hlt := hL.lt
    have hgs : s.gens[g]? = some (.fresh (.func (bodyAt w.params 193) (itEnv w L))) := h.gens ▸ hfr
    have hnone : ∀ b, s.heap.objs.size ≤ b → s.heap.get? b = none := fun b hb => by
      cases e : s.heap.get? b with
      | none => rfl
      | some o => exact absurd (Heap.lt_size e) (Nat.not_lt.mpr hb)
    have hHL : c.H.get? L = none := by
      cases q : c.H.get? L with
      | none => rfl
      | some o => have := h.zb _ _ q; rw [h.zo L (.tail _ (.head _))] at this; cases this
    refine key (s.heap.objs.size + 1) s.heap.objs.size us _ hgs ?_ ⟨[], rfl⟩ (fun b hb => .inr (hnone b ?_)) (.inr trivial) ?_
    · simp only [List.nodup_cons, List.mem_cons, List.not_mem_nil, or_false, not_or, not_false_eq_true, List.nodup_nil, and_true]
      exact ⟨⟨Nat.ne_of_lt (Nat.lt_succ_of_lt hlt), Nat.ne_of_lt hlt⟩, Nat.succ_ne_self _⟩
    · rcases List.mem_cons.mp hb with rfl | hb
      · exact Nat.le_succ _
      · rw [List.mem_singleton.mp hb]; exact Nat.le_refl _
    · rw [hus]
      exact goes_fresh (s := s.setGen g .running) (t := t) h.base (hr.in1.le (by omega)) hx hxl (fun b o q => h.z b o (h.zb b o q)) hL hHL (bare_set (show AllBare s.gens from h.gens ▸ h.bare) rfl)
  · exact key e it U gs (h.gens ▸ hgs) hnd hpre (fun b hb => .inl (by rw [hfull]; exact hb)) (.inr trivial) (hgo _ ⟨fun b o q => h.z b o (h.zb b o q), h.nss (L, m) (.tail _ (.head _)), fun q hq => h.own q (List.mem_append_right _ hq)⟩ (bare_set (show AllBare s.gens from h.gens ▸ h.bare) rfl))
end
end Mine
end
noncomputable section
open PySem PySem.W PyProof.Rows PySem.Calls PySem.Spec
set_option Elab.async false
set_option maxRecDepth 100000
set_option linter.unusedVariables false
open PySem.Builtin PySem.Builtin.Str PySem.StrLaws
namespace Mine
noncomputable def partV : Option (Int × Tok) → Value
  | none => .none
  | some (i, t) => .int i t
section
variable {w : World} {c : Ctx0} {G : Array GenState} {Z : Zone} {r : List (Addr × (Str → Option Value))} {l : List (Addr × Obj)} {s : Shared} {A : Around} {E : Value → Shared → Prop} {env : Env} {m : Str → Option Value} {pos np : Pos} {Q : Value → Shared → Prop}
theorem part_none {Q : Value → Shared → Prop} (h : Q (partV none) s) : wpAny (model PG w) A (evalPart none env) Q E s := wpAny_pure h
theorem part_some {e : PySem.Expr} {Q : Value → Shared → Prop} (h : wpAny (model PG w) A (eval e env) Q E s) : wpAny (model PG w) A (evalPart (some e) env) Q E s := h
/-- x[lo:hi] of a text -/
theorem sl_str {value : PySem.Expr} {lower upper : Option PySem.Expr} {p : Pos} (x : Str) (t : Tok) (lo hi : Option (Int × Tok))
    (hq : wpAny (model PG w) A (eval value env) (fun o s₁ => o = .str x t ∧ wpAny (model PG w) A (evalPart lower env) (fun a s₂ => a = partV lo ∧ wpAny (model PG w) A (evalPart upper env) (fun b s₃ => b = partV hi ∧ ∃ c G Z r l, S w c G Z r l s₃ ∧ x.length ≤ sizeLine ∧
      ∀ t' s', S w c G Z r l s' → Q (.str (Txt.slice x (lo.map (·.1)) (hi.map (·.1))) t') s') E s₂) E s₁) E s)
    (ht : (fun o r => letTemporaryGo value o r) = fun _ _ => pure () := by kernel_rfl) :
    wpAny (model PG w) A (eval (.Subscript value (.Slice lower upper none p) pos) env) Q E s := by
  refine Subscript_Slice (wpAny_mono hq (fun o s₁ h₁ => ?_) fun _ _ x => x) (fun o r => congrFun (congrFun ht o) r)
  obtain ⟨rfl, h₁⟩ := h₁
  refine wpAny_Slice (wpAny_mono h₁ (fun a s₂ h₂ => ?_) fun _ _ x => x)
  obtain ⟨rfl, h₂⟩ := h₂
  refine wpAny_mono h₂ (fun b s₃ h₃ => ?_) fun _ _ x => x
  obtain ⟨rfl, c, G, Z, r, l, hS, hsz, hQ⟩ := h₃
  refine wpAny_pure ?_
  refine ⟨"str", _, F.slot_str_getitem.lookup, typeIs_str _ _ _, wpAny_getItem_str_slice (l := lo) (u := hi) (st := none) ⟨_, Heap.get?_push_size _ rfl, rfl, ?_⟩ rfl ?_⟩
  · cases lo with
    | none => cases hi with
      | none => rfl
      | some v => rfl
    | some u => cases hi with
      | none => rfl
      | some v => rfl
  · have h1 := hS.heapK (h' := s₃.heap.push { cls := .type "slice", data := .fields #[partV lo, partV hi, .none] }) fun b o' e => Heap.get?_push_of_some _ e
    exact post_val_or_str ⟨Nat.le_trans (Txt.slice_le x _ _) hsz, fun t' k => hQ t' _ (h1.toks _)⟩
theorem slice_nat (x : Str) (a b : Nat) : Txt.slice x (some (a : Int)) (some (b : Int)) = ⟨((x.cps.toList.drop a).take (b - a)).toArray⟩ := by
  have e : strSliceIndices (some (a : Int)) (some (b : Int)) 1 x.length = strSliceIndices (some ((min a x.length : Nat) : Int)) (some ((max (min a x.length) (min b x.length) : Nat) : Int)) 1 x.length := by
    have h1 : ¬ ((a : Int) < 0) := by omega
    have h2 : ¬ ((b : Int) < 0) := by omega
    have h3 : ¬ (((min a x.length : Nat) : Int) < 0) := by omega
    have h4 : ¬ (((max (min a x.length) (min b x.length) : Nat) : Int) < 0) := by omega
    simp only [strSliceIndices, h1, h2, h3, h4, if_false, show ((1 : Int) > 0) = True from by simp, if_true]
    have e1 : Max.max (0 : Int) (min (a : Int) (x.length : Int)) = ((min a x.length : Nat) : Int) := by omega
    have e2 : Max.max (0 : Int) (min ((min a x.length : Nat) : Int) (x.length : Int)) = ((min a x.length : Nat) : Int) := by omega
    have e3 : Max.max (0 : Int) (min (b : Int) (x.length : Int)) = ((min b x.length : Nat) : Int) := by omega
    have e4 : Max.max (0 : Int) (min ((max (min a x.length) (min b x.length) : Nat) : Int) (x.length : Int)) = ((max (min a x.length) (min b x.length) : Nat) : Int) := by omega
    rw [e1, e2, e3, e4]
    unfold sliceRange
    simp only [show ((1 : Int) > 0) = True from by simp, if_true]
    by_cases hlt : min a x.length < min b x.length
    · rw [Nat.max_eq_right (Nat.le_of_lt hlt)]
    · rw [Nat.max_eq_left (Nat.le_of_not_lt hlt), if_neg (by omega), if_neg (by omega)]
  have e' : Txt.slice x (some (a : Int)) (some (b : Int)) = Txt.slice x (some ((min a x.length : Nat) : Int)) (some ((max (min a x.length) (min b x.length) : Nat) : Int)) := by
    unfold Txt.slice; rw [e]
  rw [e']
  show StrLaws.sliceText _ _ _ = _
  rw [StrLaws.sliceText_nat x (Nat.le_max_left _ _) (by omega)]
  apply Str.ext'
  show List.toArray _ = List.toArray _
  congr 1
  have hl : x.length = x.cps.toList.length := by simp [Str.length]
  rw [hl]
  by_cases ha : a ≤ x.cps.toList.length
  · rw [Nat.min_eq_left ha]
    by_cases hb : b ≤ x.cps.toList.length
    · rw [Nat.min_eq_left hb]
      by_cases hab : a ≤ b
      · rw [Nat.max_eq_right hab]
      · rw [Nat.max_eq_left (by omega)]
        rw [Nat.sub_self, Nat.sub_eq_zero_of_le (by omega)]
    · rw [Nat.min_eq_right (by omega), Nat.max_eq_right ha]
      rw [List.take_of_length_le (by rw [List.length_drop]; omega), List.take_of_length_le (by rw [List.length_drop]; omega)]
  · rw [Nat.min_eq_right (by omega)]
    rw [List.drop_of_length_le (Nat.le_refl _), List.drop_of_length_le (by omega)]
    simp
theorem slice_from (x : Str) (a : Nat) : Txt.slice x (some (a : Int)) none = ⟨(x.cps.toList.drop a).toArray⟩ := by
  have e : Txt.slice x (some (a : Int)) none = Txt.slice x (some (a : Int)) (some (x.length : Int)) := by
    unfold Txt.slice; rw [StrLaws.sliceIdx_none_hi]
  rw [e, slice_nat, List.take_of_length_le (by simp [Str.length])]
theorem slice_to (x : Str) (b : Nat) : Txt.slice x none (some (b : Int)) = ⟨(x.cps.toList.take b).toArray⟩ := by
  have e : Txt.slice x none (some (b : Int)) = Txt.slice x (some ((0 : Nat) : Int)) (some (b : Int)) := by
    unfold Txt.slice; rw [StrLaws.sliceIdx_none_lo]; rfl
  rw [e, slice_nat]; simp
/-- a method of a text is called -/
noncomputable abbrev mth1Q (w : World) (A : Around) (E : Value → Shared → Prop) (id : String) (Q : Value → Shared → Prop) (x : Str) (t : Tok) : Value → Shared → Prop := fun v s₂ => wpAny (model PG w) A (call (.builtin id) [.str x t, v]) Q E s₂
noncomputable abbrev mthQ (w : World) (A : Around) (E : Value → Shared → Prop) (env : Env) (id : String) (e : PySem.Expr) (Q : Value → Shared → Prop) : Value → Shared → Prop := fun ov s₁ => ∃ x t, ov = .str x t ∧ wpAny (model PG w) A (eval e env) (mth1Q w A E id Q x t) E s₁
noncomputable abbrev mth0Q (w : World) (A : Around) (E : Value → Shared → Prop) (id : String) (Q : Value → Shared → Prop) : Value → Shared → Prop := fun ov s₁ => ∃ x t, ov = .str x t ∧ wpAny (model PG w) A (call (.builtin id) [.str x t]) Q E s₁
theorem callS {o e : PySem.Expr} {name : Str} {apos : Pos} {id : String} (slot : Slot "str" name id) (hty : typeOf (.builtin id) = pure (.type "method_descriptor"))
    (h : wpAny (model PG w) A (eval o env) (mthQ w A E env id e Q) E s)
    (hbase : attributeBase o name env (eval o env) = eval o env := by kernel_rfl)
    (hs : starEach [e] env = [(false, eval e env)] := by kernel_rfl) (hline : (apos.endLine == pos.line) = true := by kernel_rfl) :
    wpAny (model PG w) A (eval (.Call (.Attribute o name apos) [e] [] pos) env) Q E s := by
  refine Call_method1 hbase hs hline (wpAny_mono h (fun ov s₁ h₁ => ?_) fun _ _ x => x)
  obtain ⟨x, t, rfl, h₁⟩ := h₁
  refine ⟨"str", id, F.plainAttrs_str, slot, hty, typeIs_str _ _ _, (fun _ e => nomatch e), ?_⟩
  exact Calls.callWith_builtin rfl (Calls.evalArgs_plain (Calls.spliced_cons (wpAny_mono h₁ (fun _ _ q => Calls.spliced_nil q) fun _ _ x => x)))
theorem callS0 {o : PySem.Expr} {name : Str} {apos : Pos} {id : String} (slot : Slot "str" name id) (hty : typeOf (.builtin id) = pure (.type "method_descriptor"))
    (h : wpAny (model PG w) A (eval o env) (mth0Q w A E id Q) E s)
    (hbase : attributeBase o name env (eval o env) = eval o env := by kernel_rfl) (hline : (apos.endLine == pos.line) = true := by kernel_rfl) :
    wpAny (model PG w) A (eval (.Call (.Attribute o name apos) [] [] pos) env) Q E s := by
  refine Call_method0 hbase hline (wpAny_mono h (fun ov s₁ h₁ => ?_) fun _ _ x => x)
  obtain ⟨x, t, rfl, h₁⟩ := h₁
  refine ⟨"str", id, F.plainAttrs_str, slot, hty, typeIs_str _ _ _, (fun _ e => nomatch e), ?_⟩
  exact Calls.callWith_builtin rfl (wpAny_pure h₁)
theorem go_gen {elts : List PySem.Expr} {k : Nat} {tp : Pos} {a b g : Nat} {nm qn : Value} {Q : Unit → Shared → Prop} (h : s.heap.get? a = some (genObj g nm qn)) (hq : Q () s) :
    wpAny (model PG w) A (letOwnedTupleGo (.Tuple elts k tp) (.ref a) (.ref b)) Q E s := by
  unfold letOwnedTupleGo
  refine wpAny_bind (wpAny_load h ?_)
  exact wpAny_pure hq
end
end Mine
end
noncomputable section
open PySem PySem.W PyProof.Rows PySem.Calls PySem.Spec
open PySem.Builtin PySem.Builtin.Str PySem.StrLaws
set_option Elab.async false
set_option maxRecDepth 100000
set_option linter.unusedVariables false
set_option maxHeartbeats 4000000
namespace Mine
local macro_rules | `(tactic| walk_at "lk") => `(tactic| first | with_reducible exact put | with_reducible assumption | ((with_reducible refine' got ?h9 ?n9); (case n9 => decide); (case h9 => walk_at "lk")) | exact rfl)
/-! ### _strip_quoted_realnames -/
noncomputable def mkS (l : List Nat) : Str := ⟨l.toArray⟩
/-- its loop -/
noncomputable def stripGo (x : List Nat) : List (Nat × List Nat) → Nat → Option Nat → List (List Nat) → Nat × List (List Nat)
  | [], st, _, acc => (st, acc)
  | (p, ch) :: us, st, op, acc =>
    if ch = [34] then
      match op with
      | none => stripGo x us st (some p) acc
      | some o => stripGo x us (p + 1) none (if st ≠ o then acc ++ [(x.drop st).take (o - st)] else acc)
    else stripGo x us st op acc
theorem stripGo_cons (x : List Nat) (p : Nat) (ch : List Nat) (us : List (Nat × List Nat)) (st : Nat) (op : Option Nat) (acc : List (List Nat)) : stripGo x ((p, ch) :: us) st op acc =
    if ch = [34] then (match op with
      | none => stripGo x us st (some p) acc
      | some o => stripGo x us (p + 1) none (if st ≠ o then acc ++ [(x.drop st).take (o - st)] else acc))
    else stripGo x us st op acc := by cases op <;> simp [stripGo]
noncomputable def stripEnd (x : List Nat) (r : Nat × List (List Nat)) : List Nat := (if r.1 < x.length then r.2 ++ [x.drop r.1] else r.2).flatten
noncomputable def stripP (x : List Nat) : List Nat := if 34 ∈ x then stripEnd x (stripGo x (unitsFrom 0 false x) 0 none []) else x
noncomputable abbrev spEnv (w : World) (L : Addr) : Env := callEnv (fdAt w.params 200) L 200
theorem has_one (x : Str) (c : Nat) : (!(occurrences x ⟨#[c]⟩ 0 x.length 1).isEmpty) = decide (c ∈ x.cps.toList) := by
  rw [Bool.eq_iff_iff, found_iff, decide_eq_true_iff, List.mem_iff_getElem?]
  exact exists_congr fun i => subAt_one x c i
theorem q_str : Str.ofString "\"" = ⟨#[34]⟩ := by decide +kernel
theorem e_str : Str.ofString "" = ⟨#[]⟩ := by decide +kernel
theorem one_eq (u : List Nat) (c : Nat) : ((⟨u.toArray⟩ : Str) == ⟨#[c]⟩) = decide (u = [c]) := by
  rw [Bool.eq_iff_iff, decide_eq_true_iff, beq_iff_eq]
  constructor
  · intro h; have := congrArg (fun x => x.cps.toList) h; simpa using this
  · rintro rfl; rfl
/-- a list's values are texts -/
noncomputable def StrsL (vs : List Value) (ls : List (List Nat)) : Prop := ∃ lst : List (Str × Tok), vs = strValues lst ∧ lst.map (·.1) = ls.map mkS
theorem StrsL.nil : StrsL [] [] := ⟨[], rfl, rfl⟩
theorem StrsL.snoc {vs : List Value} {ls : List (List Nat)} (h : StrsL vs ls) (x : List Nat) (t : Tok) : StrsL (vs ++ [.str (mkS x) t]) (ls ++ [x]) := by
  obtain ⟨lst, rfl, e⟩ := h
  exact ⟨lst ++ [(mkS x, t)], by simp [strValues], by simp [e]⟩
theorem StrsL.length {vs : List Value} {ls : List (List Nat)} (h : StrsL vs ls) : vs.length = ls.length := by
  obtain ⟨lst, rfl, e⟩ := h
  have := congrArg List.length e
  simpa [strValues] using this
theorem mkS_append (a b : List Nat) : mkS a ++ mkS b = mkS (a ++ b) := by
  show Str.append _ _ = _
  simp [mkS, Str.append]
theorem join_flat : ∀ ls : List (List Nat), Str.join (⟨#[]⟩ : Str) (ls.map mkS) = mkS ls.flatten
  | [] => rfl
  | [x] => by simp [Str.join]
  | x :: y :: r => by
    have ih := join_flat (y :: r)
    show mkS x ++ (⟨#[]⟩ : Str) ++ Str.join _ ((y :: r).map mkS) = _
    rw [ih]
    have e : mkS x ++ (⟨#[]⟩ : Str) = mkS x := Str.append_empty _
    rw [e, mkS_append]
    simp
theorem txt_join_flat (ls : List (List Nat)) : Txt.join (⟨#[]⟩ : Str) (ls.map mkS) = mkS ls.flatten := (glued_eq_join _ _).trans (join_flat ls)
theorem join_ok (ls : List (List Nat)) (h : ∀ y ∈ ls, y.length ≤ 1000) (hl : ls.length ≤ 10000) : JoinOk (⟨#[]⟩ : Str) (ls.map mkS) = true := by
  unfold JoinOk
  rw [Bool.not_eq_true']
  refine joinFits (B := 1000) (fun y hy => ?_) ?_
  · obtain ⟨z, hz, rfl⟩ := List.mem_map.mp hy
    have := h z hz
    simpa [mkS, Str.length] using this
  · rw [List.length_map]
    show ls.length * 1000 + ls.length * 0 ≤ _
    omega
theorem unitsFrom_length : ∀ (l : List Nat) (i : Nat) (b : Bool), (unitsFrom i b l).length ≤ l.length + (if b then 1 else 0)
  | [], _, true => by simp [unitsFrom]
  | [], _, false => by simp [unitsFrom]
  | c :: r, i, true => by
    have := unitsFrom_length r (i + 1) false
    simp [unitsFrom] at this ⊢; omega
  | c :: r, i, false => by
    unfold unitsFrom
    split
    · have := unitsFrom_length r (i + 1) true
      simp at this ⊢; omega
    · have := unitsFrom_length r (i + 1) false
      simp at this ⊢; omega
noncomputable def opV : Option (Nat × Tok) → Value
  | none => .none
  | some (p, t) => .int (p : Int) t
noncomputable def spTail (P : Params) : List Stmt := match bodyAt P 200 with
  | _ :: _ :: _ :: _ :: _ :: _ :: r => r
  | _ => []
theorem strip_tail {w : World} {c : Ctx0} {G : Array GenState} {Z : Zone} {r : List (Addr × (Str → Option Value))} {l : List (Addr × Obj)} {s : Shared} {A : Around} {L : Addr} {m : Str → Option Value} {D : Addr} {acc : List Value} {kk : Nat} {accS : List (List Nat)} {Q : Flow → Shared → Prop} {E : Value → Shared → Prop}
    (hS : S w c G Z (((spEnv w L).locals, m) :: r) l s) (hD : (D, W.listOf acc.toArray kk) ∈ l) (hm : m (Str.ofString "result") = some (.ref D)) (hacc : StrsL acc accS) (hb : ∀ y ∈ accS, y.length ≤ 1000) (hl : accS.length ≤ 10000)
    (k : ∀ t' s', S w c G Z (((spEnv w L).locals, m) :: r) l s' → Q (.ret (.str (mkS accS.flatten) t')) s') {body : List Stmt} (hbd : body = spTail w.params := by kernel_rfl) : wpAny (model PG w) A (execs body (spEnv w L)) Q E s := by
  subst hbd
  refine wpAny_execs_cons ?_
  refine wpAny_Return_some ?_
  with_reducible refine callS F.slot_str_join F.type_str_join ?_
  refine con_str hS fun t1 s2 hS2 => ?_
  refine ⟨_, _, rfl, ?_⟩
  refine ld hS2 hm ?_
  obtain ⟨lst, rfl, e⟩ := hacc
  rw [e_str]
  refine SC.join (isList_of (hS2.own' hD)) e (join_ok _ hb hl) fun t' kk => ?_
  rw [txt_join_flat]
  exact k _ _ (hS2.toks _)
noncomputable def spBot (P : Params) : List Stmt := match bodyAt P 200 with
  | _ :: _ :: _ :: _ :: .For _ _ (.If _ (.If _ _ (_ :: r) _ :: _) _ _ :: _) _ _ :: _ => r
  | _ => []
theorem strip_bot {w : World} {c : Ctx0} {G : Array GenState} {Z : Zone} {r : List (Addr × (Str → Option Value))} {l : List (Addr × Obj)} {s : Shared} {A : Around} {L : Addr} {m : Str → Option Value} {p : Int} {tp : Tok} {Q : Flow → Shared → Prop} {E : Value → Shared → Prop}
    (hS : S w c G Z (((spEnv w L).locals, m) :: r) l s) (hm : m (Str.ofString "pos") = some (.int p tp))
    (k : ∀ t s', S w c G Z (((spEnv w L).locals, fun y => if y = Str.ofString "open_pos" then some .none else (fun y => if y = Str.ofString "start" then some (.int (p + 1) t) else m y) y) :: r) l s' → Q .next s') {body : List Stmt} (hbd : body = spBot w.params := by kernel_rfl) : wpAny (model PG w) A (execs body (spEnv w L)) Q E s := by
  subst hbd
  refine wpAny_execs_cons (wpAny_Assign_Name (wpAny_BinOp ?_))
  refine ld hS hm (con_int hS fun t1 s2 hS2 => PyProof.Rows.add_int (st (hS2.toks _) fun s3 hS3 => ?_))
  refine wpAny_execs_cons (wpAny_Assign_Name (con_none (st hS3 fun s4 hS4 => ?_)))
  exact wpAny_execs_nil (k _ _ hS4)
inductive StI (w : World) (cc : Ctx0) (A : Around) (x : Str) (t : Tok) (L L' a D : Addr) (g : Nat) (nm qn : Value) (n : Nat) (s' : Shared) : Prop
  | mk (us : List (Nat × List Nat)) (start : Nat) (ts : Tok) (op : Option (Nat × Tok)) (acc : List Value) (kk : Nat) (m m' : Str → Option Value) (gl : List (Addr × Obj)) (G : Array GenState) (Z : Zone)
      (hS : S w cc G Z [((spEnv w L).locals, m), (L', m')] ([(a, genObj g nm qn), (D, W.listOf acc.toArray kk)] ++ gl) s') (hI : GenIs w (A.deeper (spEnv w L)) cc.H G g L' x us m' gl)
      (h1 : m (Str.ofString "addr") = some (.str x t)) (h2 : m (Str.ofString "start") = some (.int (start : Nat) ts)) (h3 : m (Str.ofString "open_pos") = some (opV op)) (h4 : m (Str.ofString "result") = some (.ref D)) (hn : n = us.length) (hle : acc.length + us.length ≤ 1001)
      (accS : List (List Nat)) (hacc : StrsL acc accS) (hbd : ∀ y ∈ accS, y.length ≤ 1000) (hgo : stripEnd x.cps.toList (stripGo x.cps.toList us start (op.map (·.1)) accS) = stripP x.cps.toList) : StI w cc A x t L L' a D g nm qn n s'
theorem strip_ok {w : World} {c : Ctx0} {G : Array GenState} {Z : Zone} {s : Shared} {A : Around} {E Q : Value → Shared → Prop} {x : Str} {t : Tok} (hr : Rm A 20) (hx : x.cps.all (· < 128) = true) (hxl : x.length ≤ 1000) (h : Z0 w c G Z s)
    (k : ∀ t' s' Z' G', Z0 w ⟨c.H, s, [], Z⟩ G' Z' s' → Q (.str (mkS (stripP x.cps.toList)) t') s') : wpAny (model PG w) A (call (.ref 200) [.str x t]) Q E s := by
  have h1 : (KF w).lookup 200 = some (obAt w.params 200) := by kernel_rfl
  have h2 : (obAt w.params 200).data = .func (fdAt w.params 200) := by kernel_rfl
  have h3 : codeIn (KF w) (fdAt w.params 200).code (fdAt w.params 200).qualname = true := by kernel_rfl
  have h4 : (fdAt w.params 200).body = .stmts (bodyAt w.params 200) := by kernel_rfl
  have h5 : bindArgs (fdAt w.params 200) ⟨[.str x t], []⟩ = pure [(Str.ofString "addr", .str x t)] := by kernel_rfl
  refine wpAny_call (enter (T := []) (l := []) hr h h1 h2 h3 h4 h5 (fun _ q => nomatch q) .nil (fun _ q => nomatch q) ?_)
  intro L s₁ hs hr'
  refine wpAny_execs_cons (wpAny_If (wpAny_isTrue_Compare1 (con_str hs fun t1 s2 hS2 => ld hS2 (v := .str x t) rfl (P.notIn_str (wpAny_truthy_bool ?_)))))
  rw [q_str, has_one]
  by_cases hq : 34 ∈ x.cps.toList
  · rw [decide_eq_true hq]
    refine wpAny_execs_nil ?_
    refine wpAny_execs_cons (wpAny_Assign_Name (con_int hS2 fun t2 s3 hS3 => st hS3 fun s4 hS4 => ?_))
    refine wpAny_execs_cons (wpAny_Assign_Name (con_none (st hS4 fun s5 hS5 => ?_)))
    refine wpAny_execs_cons (wpAny_Assign_Name (mk_list (args_nil ⟨_, _, _, _, _, hS5, by decide, fun D s6 _ hS6 => st hS6 fun s7 hS7 => ?_⟩)))
    refine wpAny_execs_cons (wpAny_For ?_)
    with_reducible refine callF (f := 193) (by kernel_rfl) ?_
    refine (is_ldg hS7.toZ0 (by kernel_rfl) (args_one (ld hS7 (v := .str x t) (by walk_at "lk") ⟨hS7.toZ0.kin, iter_call (hr'.le (by omega)) hS7 fun a L' m' G' g nm qn s8 hS8 hI _ => ?_⟩)))
    refine wpAny_pyIter_gen (genObj_is (hS8.own' (.head _))) ?_
    refine forLoopJ (StI w ⟨c.H, s, [], Z⟩ A x t L L' a D g nm qn) ?_ _ ⟨_, 0, t2, none, [], 0, _, _, [], _, _, hS8, hI, rfl, rfl, rfl, rfl, rfl, ?_, [], .nil, (fun _ q => nomatch q), ?_⟩
    · intro JJ jj E
      rintro n s' ⟨us, start, ts, op, acc, kk, m, m', gl, G1, Z1, hS, hI, hm1, hm2, hm3, hm4, rfl, hle, accS, hacc, hbd, hgo⟩
      refine gen_next (hr'.le (by omega)) hx (by omega) hS rfl (.head _) hI ?_ ?_
      · rintro rfl s2 G2 hS2
        refine wpAny_execs_nil ?_
        have hle' : acc.length ≤ 1001 := by simpa using hle
        have hal := hacc.length
        rw [stripGo, stripEnd] at hgo
        refine wpAny_execs_cons ?_
        refine wpAny_If ?_
        refine wpAny_isTrue_Compare1 ?_
        with_reducible refine ld hS2 hm2 ?_
        with_reducible refine callB (is_ldb hS2.toZ0 (by kernel_rfl) (by kernel_rfl) (args_one (ld hS2 hm1 (P.len_str (by omega) ?_))))
        refine PyProof.Rows.lt_int (wpAny_truthy_bool ?_)
        have hS3 := (hS2.toks (s2.toks + 1)).toks (s2.toks + 1 + 1)
        by_cases hlt : start < x.length
        · rw [decide_eq_true (by omega)]
          have hlt' : start < x.cps.toList.length := by simpa [Str.length] using hlt
          rw [if_pos hlt'] at hgo
          refine wpAny_execs_cons (wpAny_Expr ?_)
          with_reducible refine append_own ?_
          refine ld hS3 hm4 ?_
          refine ⟨D, acc.toArray, kk, rfl, hS3.own' (.tail _ (.head _)), ?_⟩
          with_reducible refine sl_str x t (some ((start : Nat), ts)) none ?_
          refine ld hS3 hm1 ⟨rfl, part_some ?_⟩
          refine ld hS3 hm2 ⟨rfl, part_none ⟨rfl, ?_⟩⟩
          refine ⟨_, _, _, _, _, hS3, ?_, fun t4 s4 hS4 => ⟨_, _, _, _, _, _, hS4, .tail .head, ?_, fun s5 hS5 => ?_⟩⟩
          · rw [sizeLine_eq]; omega
          · rw [List.size_toArray, sizeLine_eq]; omega
          refine wpAny_execs_nil ?_
          have e1 : Txt.slice x (((some ((start : Int), ts)) : Option (Int × Tok)).map (·.1)) ((none : Option (Int × Tok)).map (·.1)) = mkS (x.cps.toList.drop start) := slice_from x start
          rw [e1, List.push_toArray] at hS5
          with_reducible refine strip_tail (accS := accS ++ [x.cps.toList.drop start]) hS5 (List.Mem.tail _ (List.Mem.head _)) hm4 (hacc.snoc _ _) ?_ (by simp; omega) fun t6 s6 hS6 => ?_
          · intro y hy
            rcases List.mem_append.mp hy with hy | hy
            · exact hbd y hy
            · rw [List.mem_singleton.mp hy, List.length_drop]
              have : x.cps.toList.length ≤ 1000 := hxl
              omega
          · rw [hgo]; exact k _ _ _ _ hS6.toZ0
        · rw [decide_eq_false (by omega)]
          have hlt' : ¬ start < x.cps.toList.length := by simpa [Str.length] using hlt
          rw [if_neg hlt'] at hgo
          refine wpAny_execs_nil ?_
          with_reducible refine strip_tail (accS := accS) hS3 (List.Mem.tail _ (List.Mem.head _)) hm4 hacc hbd (by omega) fun t6 s6 hS6 => ?_
          rw [hgo]; exact k _ _ _ _ hS6.toZ0
      · rintro u us' rfl b s2 G2 m2 gl2 tu tu' hS2 hI2 hZb hcb
        refine go_gen (hS2.own' (.head _)) ?_
        refine assign_two hr'.handled hS2 (hS2.z _ _ Zone.put_self) fun s3 hS3 => ?_
        refine wpAny_execs_cons (wpAny_If (wpAny_isTrue_Compare1 (ld hS3 put (con_str hS3 fun t1 s4 hS4 => PyProof.Rows.eq_str (wpAny_truthy_bool ?_)))))
        rw [one_eq]
        obtain ⟨p, ch⟩ := u
        rw [stripGo_cons] at hgo
        by_cases h34 : ch = [34]
        · subst h34
          rw [decide_eq_true rfl]
          rw [if_pos rfl] at hgo
          refine wpAny_execs_cons (wpAny_If (wpAny_isTrue_Compare1 (ld hS4 (by walk_at "lk") (con_none (PyProof.Rows.is_none_gen (wpAny_truthy_bool ?_))))))
          have hle' : acc.length + us'.length ≤ 1001 := by simp at hle; omega
          cases op with
          | none =>
            refine wpAny_execs_cons (wpAny_Assign_Name (ld hS4 (by walk_at "lk") (st hS4 fun s5 hS5 => ?_)))
            refine wpAny_execs_nil (wpAny_execs_nil (wpAny_execs_nil ?_))
            exact ⟨_, Nat.lt_succ_self _, jj _ _ ⟨us', start, ts, some (p, tu), acc, kk, _, m2, gl2, G2, _, hS5, hI2, by walk_at "lk", by walk_at "lk", by walk_at "lk", by walk_at "lk", rfl, hle', accS, hacc, hbd, hgo⟩⟩
          | some o =>
            obtain ⟨o, to⟩ := o
            have hm3 : m (Str.ofString "open_pos") = some (.int (o : Nat) to) := hm3
            have hal := hacc.length
            refine wpAny_execs_cons (wpAny_If (wpAny_isTrue_Compare1 ?_))
            refine ld hS4 (by walk_at "lk") (ld hS4 (by walk_at "lk") (PyProof.Rows.ne_int (wpAny_truthy_bool ?_)))
            by_cases hne : start = o
            · subst hne
              rw [bne_self_eq_false]
              refine wpAny_execs_nil ?_
              with_reducible refine strip_bot hS4 (by walk_at "lk") fun t9 s9 hS9 => ?_
              have hgo : stripEnd x.cps.toList (stripGo x.cps.toList us' (p + 1) none accS) = stripP x.cps.toList := by
                rw [← hgo]; show _ = stripEnd _ (stripGo _ _ _ _ (if start ≠ start then _ else _)); rw [if_neg (by simp)]
              refine wpAny_execs_nil (wpAny_execs_nil ?_)
              exact ⟨_, Nat.lt_succ_self _, jj _ _ ⟨us', p + 1, t9, none, acc, kk, _, m2, gl2, G2, _, hS9, hI2, by walk_at "lk", by walk_at "lk", by walk_at "lk", by walk_at "lk", rfl, hle', accS, hacc, hbd, hgo⟩⟩
            · rw [show ((start : Int) != (o : Int)) = true from bne_iff_ne.mpr (by omega)]
              refine wpAny_execs_cons (wpAny_Expr ?_)
              with_reducible refine append_own ?_
              refine ld hS4 (by walk_at "lk") ?_
              refine ⟨D, acc.toArray, kk, rfl, hS4.own' (.tail _ (.head _)), ?_⟩
              with_reducible refine sl_str x t (some ((start : Nat), ts)) (some ((o : Nat), to)) ?_
              refine ld hS4 (v := .str x t) (by walk_at "lk") ⟨rfl, part_some ?_⟩
              refine ld hS4 (v := .int (start : Nat) ts) (by walk_at "lk") ⟨rfl, part_some ?_⟩
              refine ld hS4 (v := .int (o : Nat) to) (by walk_at "lk") ⟨rfl, ?_⟩
              refine ⟨_, _, _, _, _, hS4, ?_, fun t4 s5 hS5 => ⟨_, _, _, _, _, _, hS5, .tail .head, ?_, fun s6 hS6 => ?_⟩⟩
              · rw [sizeLine_eq]; omega
              · rw [List.size_toArray, sizeLine_eq]; omega
              have e1 : Txt.slice x (((some ((start : Int), ts)) : Option (Int × Tok)).map (·.1)) ((some ((o : Int), to) : Option (Int × Tok)).map (·.1)) = mkS ((x.cps.toList.drop start).take (o - start)) := slice_nat x start o
              rw [e1, List.push_toArray] at hS6
              refine wpAny_execs_nil ?_
              with_reducible refine strip_bot hS6 (by walk_at "lk") fun t9 s9 hS9 => ?_
              have hgo : stripEnd x.cps.toList (stripGo x.cps.toList us' (p + 1) none (accS ++ [(x.cps.toList.drop start).take (o - start)])) = stripP x.cps.toList := by
                rw [← hgo]; show _ = stripEnd _ (stripGo _ _ _ _ (if start ≠ o then _ else _)); rw [if_pos hne]
              refine wpAny_execs_nil (wpAny_execs_nil ?_)
              refine ⟨_, Nat.lt_succ_self _, jj _ _ ⟨us', p + 1, t9, none, _, _, _, m2, gl2, G2, _, hS9, hI2, by walk_at "lk", by walk_at "lk", by walk_at "lk", by walk_at "lk", rfl, ?_, _, hacc.snoc _ t4, ?_, hgo⟩⟩
              · simp at hle ⊢; omega
              · intro y hy
                rcases List.mem_append.mp hy with hy | hy
                · exact hbd y hy
                · rw [List.mem_singleton.mp hy, List.length_take, List.length_drop]
                  have : x.cps.toList.length ≤ 1000 := hxl
                  omega
        · rw [decide_eq_false h34]
          rw [if_neg h34] at hgo
          refine wpAny_execs_nil (wpAny_execs_nil ?_)
          have hle' : acc.length + us'.length ≤ 1001 := by simp at hle; omega
          exact ⟨_, Nat.lt_succ_self _, jj _ _ ⟨us', start, ts, op, acc, kk, _, m2, gl2, G2, _, hS4, hI2, by walk_at "lk", by walk_at "lk", by walk_at "lk", by walk_at "lk", rfl, hle', accS, hacc, hbd, hgo⟩⟩
    · have := unitsFrom_length x.cps.toList 0 false
      have : x.cps.toList.length ≤ 1000 := hxl
      simp only [List.length_nil]
      simp only [Bool.false_eq_true, if_false] at *
      omega
    · unfold stripP; rw [if_pos hq]; rfl
  · rw [decide_eq_false hq]
    refine wpAny_execs_cons (wpAny_Return_some (ld hS2 (v := .str x t) rfl ?_))
    have := k t _ _ _ hS2.toZ0
    unfold stripP at this
    rw [if_neg hq] at this
    exact this
/-! ### _check_parenthesis -/
noncomputable def checkGo : List (Nat × List Nat) → Nat → Bool
  | [], o => o == 0
  | (_, ch) :: us, o => if ch = [40] then checkGo us (o + 1) else if ch = [41] then (if o = 0 then false else checkGo us (o - 1)) else checkGo us o
noncomputable def checkP (x : List Nat) : Bool := checkGo (unitsFrom 0 false (stripP x)) 0
noncomputable abbrev ckEnv (w : World) (L : Addr) : Env := callEnv (fdAt w.params 207) L 207
theorem l_str : Str.ofString "(" = ⟨#[40]⟩ := by decide +kernel
theorem r_str : Str.ofString ")" = ⟨#[41]⟩ := by decide +kernel
theorem mkS_list (x : List Nat) : (mkS x).cps.toList = x := by simp [mkS]
theorem mkS_all (x : List Nat) (h : x.all (· < 128) = true) : (mkS x).cps.all (· < 128) = true := by simpa [mkS] using h
theorem mkS_len (x : List Nat) : (mkS x).length = x.length := by simp [mkS, Str.length]
theorem ldn {w : World} {c : Ctx0} {G : Array GenState} {Z : Zone} {r : List (Addr × (Str → Option Value))} {l : List (Addr × Obj)} {s : Shared} {A : Around} {E : Value → Shared → Prop} {env : Env} {m : Str → Option Value} {x : Str} {v : Value} {Q : Value → Shared → Prop} (h : S w c G Z ((env.locals, m) :: r) l s) (hv : m x = some v) (hq : Q v s)
    (hk : env.scope.kind = .function := by kernel_rfl) (hl : env.kindOf x = some .local := by kernel_rfl) :
    wpAny (model PG w) A (loadName env x) Q E s := wpAny_loadName_local hk hl (h.nss _ (.head _)) hv hq
inductive CkI (w : World) (cc : Ctx0) (A : Around) (x : Str) (L L' a : Addr) (g : Nat) (nm qn : Value) (n : Nat) (s' : Shared) : Prop
  | mk (us : List (Nat × List Nat)) (o : Nat) (to : Tok) (m m' : Str → Option Value) (gl : List (Addr × Obj)) (G : Array GenState) (Z : Zone)
      (hS : S w cc G Z [((ckEnv w L).locals, m), (L', m')] ([(a, genObj g nm qn)] ++ gl) s') (hI : GenIs w (A.deeper (ckEnv w L)) cc.H G g L' (mkS (stripP x.cps.toList)) us m' gl)
      (h1 : m (Str.ofString "opens") = some (.int (o : Nat) to)) (hn : n = us.length) (hgo : checkGo us o = checkP x.cps.toList) : CkI w cc A x L L' a g nm qn n s'
theorem check_ok {w : World} {c : Ctx0} {G : Array GenState} {Z : Zone} {s : Shared} {A : Around} {E Q : Value → Shared → Prop} {x : Str} {t : Tok} (hr : Rm A 25) (hx : x.cps.all (· < 128) = true) (hxl : x.length ≤ 1000) (h : Z0 w c G Z s)
    (hy : (stripP x.cps.toList).all (· < 128) = true) (hyl : (stripP x.cps.toList).length ≤ 1000)
    (k : ∀ s' Z' G', Z0 w ⟨c.H, s, [], Z⟩ G' Z' s' → Q (.bool (checkP x.cps.toList)) s') : wpAny (model PG w) A (call (.ref 207) [.str x t]) Q E s := by
  have h1 : (KF w).lookup 207 = some (obAt w.params 207) := by kernel_rfl
  have h2 : (obAt w.params 207).data = .func (fdAt w.params 207) := by kernel_rfl
  have h3 : codeIn (KF w) (fdAt w.params 207).code (fdAt w.params 207).qualname = true := by kernel_rfl
  have h4 : (fdAt w.params 207).body = .stmts (bodyAt w.params 207) := by kernel_rfl
  have h5 : bindArgs (fdAt w.params 207) ⟨[.str x t], []⟩ = pure [(Str.ofString "addr", .str x t)] := by kernel_rfl
  refine wpAny_call (enter (T := []) (l := []) hr h h1 h2 h3 h4 h5 (fun _ q => nomatch q) .nil (fun _ q => nomatch q) ?_)
  intro L s₁ hs hr'
  refine wpAny_execs_cons (wpAny_Assign_Name ?_)
  with_reducible refine callF (f := 200) (by kernel_rfl) ?_
  refine is_ldg hs.toZ0 (by kernel_rfl) (args_one (ld hs (v := .str x t) (by walk_at "lk") ⟨hs.toZ0.kin, ?_⟩))
  refine strip_ok (hr'.le (by omega)) hx hxl hs.toZ0 fun t2 s2 Z2 G2 hZ2 => ?_
  have hS2 := hs.back hZ2 (fun _ q => nomatch q)
  refine st hS2 fun s3 hS3 => ?_
  refine wpAny_execs_cons (wpAny_Assign_Name (con_int hS3 fun t3 s4 hS4 => st hS4 fun s5 hS5 => ?_))
  refine wpAny_execs_cons (wpAny_For ?_)
  with_reducible refine callF (f := 193) (by kernel_rfl) ?_
  refine is_ldg hS5.toZ0 (by kernel_rfl) (args_one (ld hS5 (v := .str (mkS (stripP x.cps.toList)) t2) (by walk_at "lk") ⟨hS5.toZ0.kin, ?_⟩))
  refine iter_call (hr'.le (by omega)) hS5 fun a L' m' G' g nm qn s8 hS8 hI _ => ?_
  rw [mkS_list] at hI
  refine wpAny_pyIter_gen (genObj_is (hS8.own' (.head _))) ?_
  refine forLoopJ (CkI w ⟨c.H, s, [], Z⟩ A x L L' a g nm qn) ?_ _ ⟨_, 0, t3, _, _, [], _, _, hS8, hI, rfl, rfl, rfl⟩
  intro JJ jj E
  rintro n s' ⟨us, o, to, m, m', gl, G1, Z1, hS, hI, hm1, rfl, hgo⟩
  refine gen_next (hr'.le (by omega)) (mkS_all _ hy) (by rw [mkS_len]; omega) hS rfl (.head _) hI ?_ ?_
  · rintro rfl s2 G2 hS2
    refine wpAny_execs_nil ?_
    refine wpAny_execs_cons (wpAny_Return_some (wpAny_Compare1 (ld hS2 hm1 (con_int hS2 fun t4 s3 hS3 => PyProof.Rows.eq_int ?_))))
    have e : ((o : Int) == 0) = checkP x.cps.toList := by
      rw [← hgo]; show _ = (o == 0)
      rw [Bool.eq_iff_iff, beq_iff_eq, beq_iff_eq]; omega
    rw [e]
    exact k _ _ _ hS3.toZ0
  · rintro u us' rfl b s2 G2 m2 gl2 tu tu' hS2 hI2 hZb hcb
    refine go_gen (hS2.own' (.head _)) ?_
    refine assign_two hr'.handled hS2 (hS2.z _ _ Zone.put_self) fun s3 hS3 => ?_
    refine wpAny_execs_cons (wpAny_If (wpAny_isTrue_Compare1 (ld hS3 put (con_str hS3 fun t1 s4 hS4 => PyProof.Rows.eq_str (wpAny_truthy_bool ?_)))))
    rw [l_str, one_eq]
    obtain ⟨p, ch⟩ := u
    rw [checkGo] at hgo
    by_cases h40 : ch = [40]
    · rw [decide_eq_true h40]
      rw [if_pos h40] at hgo
      refine wpAny_execs_cons (wpAny_AugAssign_Name ?_)
      refine ldn hS4 (v := .int (o : Nat) to) (by walk_at "lk") (con_int hS4 fun t6 s6 hS6 => PyProof.Rows.iadd_int (st (hS6.toks _) fun s7 hS7 => ?_))
      refine wpAny_execs_nil (wpAny_execs_nil ?_)
      exact ⟨_, Nat.lt_succ_self _, jj _ _ ⟨us', o + 1, _, _, m2, gl2, G2, _, hS7, hI2, by walk_at "lk", rfl, hgo⟩⟩
    · rw [decide_eq_false h40]
      rw [if_neg h40] at hgo
      refine wpAny_execs_cons (wpAny_If (wpAny_isTrue_Compare1 (ld hS4 (by walk_at "lk") (con_str hS4 fun t1 s5 hS5 => PyProof.Rows.eq_str (wpAny_truthy_bool ?_)))))
      rw [r_str, one_eq]
      by_cases h41 : ch = [41]
      · rw [decide_eq_true h41]
        rw [if_pos h41] at hgo
        refine wpAny_execs_cons (wpAny_AugAssign_Name ?_)
        refine ldn hS5 (v := .int (o : Nat) to) (by walk_at "lk") (con_int hS5 fun t6 s6 hS6 => PyProof.Rows.isub_int (st (hS6.toks _) fun s7 hS7 => ?_))
        refine wpAny_execs_cons (wpAny_If (wpAny_isTrue_Compare1 ?_))
        refine ld hS7 put (con_int hS7 fun t8 s8 hS8 => PyProof.Rows.lt_int (wpAny_truthy_bool ?_))
        by_cases ho : o = 0
        · subst ho
          rw [if_pos rfl] at hgo
          rw [decide_eq_true (by decide)]
          refine wpAny_execs_cons (wpAny_Return_some (con_bool ?_))
          have := k _ _ _ hS8.toZ0
          rw [← hgo] at this
          exact this
        · rw [if_neg ho] at hgo
          rw [decide_eq_false (by omega)]
          refine wpAny_execs_nil (wpAny_execs_nil (wpAny_execs_nil (wpAny_execs_nil ?_)))
          exact ⟨_, Nat.lt_succ_self _, jj _ _ ⟨us', o - 1, s6.toks, _, m2, gl2, G2, _, hS8, hI2, (by rw [show ((o - 1 : Nat) : Int) = (o : Int) - 1 by omega]; walk_at "lk"), rfl, hgo⟩⟩
      · rw [decide_eq_false h41]
        rw [if_neg h41] at hgo
        refine wpAny_execs_nil (wpAny_execs_nil (wpAny_execs_nil ?_))
        exact ⟨_, Nat.lt_succ_self _, jj _ _ ⟨us', o, to, _, m2, gl2, G2, _, hS5, hI2, by walk_at "lk", rfl, hgo⟩⟩
/-! ### cells -/
noncomputable abbrev cellO (v : Option Value) : Obj := { cls := .type "cell", data := .cell v }
/-- the cells of a call as own objects -/
noncomputable def cellLed (cs : List (Str × Addr)) (cm : Str → Option Value) : List (Addr × Obj) := cs.map fun p => (p.2, cellO (cm p.1))
section
variable {w : World} {c : Ctx0} {G : Array GenState} {Z : Zone} {r : List (Addr × (Str → Option Value))} {l l' : List (Addr × Obj)} {s : Shared} {A : Around} {E : Value → Shared → Prop} {env : Env} {m : Str → Option Value}
theorem ldc {x : Str} {pos : Pos} {v : Value} {a : Addr} {Q : Value → Shared → Prop} (h : S w c G Z r l s) (hm : (a, cellO (some v)) ∈ l) (hq : Q v s)
    (hc : env.cells.lookup x = some a := by kernel_rfl)
    (hk : env.scope.kind = .function := by kernel_rfl) (hl : env.kindOf x = some .cell := by kernel_rfl) (hd : (x == ("__debug__" : Str)) = false := by decide) :
    wpAny (model PG w) A (eval (.Name x pos) env) Q E s := wpAny_Name (wpAny_loadName_cell hk hl hc ⟨_, h.own _ hm, rfl⟩ hq) hd
theorem stc {x : Str} {v : Value} {v₀ : Option Value} {a : Addr} {Q : Unit → Shared → Prop} (h : S w c G Z r l s) (u : Upd a (cellO v₀) (cellO (some v)) l l')
    (hq : ∀ s', S w c G Z r l' s' → Q () s')
    (hc : env.cells.lookup x = some a := by kernel_rfl)
    (hk : env.scope.kind = .function := by kernel_rfl) (hl : env.kindOf x = some .cell := by kernel_rfl) :
    wpAny (model PG w) A (storeName env x v) Q E s := by
  unfold storeName
  simp only [hl, hk]
  refine wpAny_bind (wpAny_cellOf hc ?_)
  unfold cellSet
  refine wpAny_bind (wpAny_load (h.own' u.mem) ?_)
  exact wpAny_update (h.own' u.mem) (hq _ (h.upd u rfl rfl))
end
theorem pushCells_at : ∀ (names : List (Str × NameKind)) (h : Heap) (acc : List (Str × Addr)) (n : Str) (a : Addr), (n, a) ∈ cellsFrom h.objs.size names acc →
    (n, a) ∈ acc ∨ (h.objs.size ≤ a ∧ (pushCells h names).get? a = some (cellO none))
  | [], _, _, _, _, q => .inl q
  | (name, kind) :: r, h, acc, n, a, q => by
    unfold pushCells
    unfold cellsFrom at q
    split at q
    · rename_i hk
      rw [if_pos hk]
      have := pushCells_at r (h.push (cellO none)) ((name, h.objs.size) :: acc) n a (by rw [Heap.size_push]; exact q)
      rw [Heap.size_push] at this
      rcases this with q | ⟨h1, h2⟩
      · rcases List.mem_cons.mp q with e | q
        · cases e
          exact .inr ⟨Nat.le_refl _, pushCells_keeps _ _ _ _ (Heap.get?_push_size _ rfl)⟩
        · exact .inl q
      · exact .inr ⟨Nat.le_of_succ_le h1, h2⟩
    · rename_i hk
      rw [if_neg hk]
      exact pushCells_at r h acc n a q
theorem cellLed_keys (cs : List (Str × Addr)) (cm : Str → Option Value) : (cellLed cs cm).map (·.1) = cs.map (·.2) := by simp [cellLed]
theorem cellLed_cons (p : Str × Addr) (cs : List (Str × Addr)) (cm : Str → Option Value) : cellLed (p :: cs) cm = (p.2, cellO (cm p.1)) :: cellLed cs cm := rfl
theorem cellLed_upd (cs : List (Str × Addr)) (cm : Str → Option Value) (l : List (Addr × Obj)) {n : Str} {a : Addr} (v : Value) (hp : cs.Pairwise fun x y => x.2 ≠ y.2) (hn : (cs.map (·.1)).Nodup) (hc : cs.lookup n = some a) :
    Upd a (cellO (cm n)) (cellO (some v)) (cellLed cs cm ++ l) (cellLed cs (fun y => if y = n then some v else cm y) ++ l) := by
  induction cs with
  | nil => cases hc
  | cons p cs ih =>
    obtain ⟨k, b⟩ := p
    rw [List.lookup_cons] at hc
    rw [List.map_cons, List.nodup_cons] at hn
    cases hb : n == k with
    | true =>
      rw [hb] at hc; cases hc
      have e := beq_iff_eq.mp hb
      subst e
      have : cellLed cs (fun y => if y = n then some v else cm y) = cellLed cs cm := List.map_congr_left fun q hq => by
        show (q.2, cellO (if q.1 = n then some v else cm q.1)) = _
        have hne : q.1 ≠ n := fun e => hn.1 (by
          show n ∈ _
          rw [← e]; exact List.mem_map_of_mem (f := (·.1)) hq)
        rw [if_neg hne]
      rw [cellLed_cons, cellLed_cons, this]
      show Upd _ _ _ (_ :: _) ((_, cellO (if n = n then some v else cm n)) :: _)
      rw [if_pos rfl]
      exact .head
    | false =>
      rw [hb] at hc
      have hne : k ≠ n := fun e => by rw [e] at hb; simp at hb
      rw [cellLed_cons, cellLed_cons]
      show Upd _ _ _ (_ :: _) ((_, cellO (if k = n then some v else cm k)) :: _)
      rw [if_neg hne]
      exact .tail (ih (List.pairwise_cons.mp hp).2 hn.2 hc)
section
variable {w : World} {c : Ctx0} {G : Array GenState} {Z : Zone} {l : List (Addr × Obj)} {s : Shared} {A : Around} {E : Value → Shared → Prop} {env : Env}
theorem bind_params (f : Str × Value → PUnit → Sem (ForInStep PUnit)) (hf : ∀ n v u, f (n, v) u = (do storeName env n v; pure (.yield ⟨⟩))) (hk : env.scope.kind = .function) (hp : env.cells.Pairwise fun x y => x.2 ≠ y.2) (hn : (env.cells.map (·.1)).Nodup) :
    ∀ (binds : List (Str × Value)) (m cm : Str → Option Value) (s : Shared) (Q : PUnit → Shared → Prop), S w c G Z [(env.locals, m)] (cellLed env.cells cm ++ l) s →
      (binds.all fun x => env.kindOf x.1 == some .local || (env.kindOf x.1 == some .cell && (env.cells.lookup x.1).isSome)) = true →
      (∀ s', S w c G Z [(env.locals, bindL env.kindOf binds m)] (cellLed env.cells (bindC env.kindOf binds cm) ++ l) s' → Q ⟨⟩ s') → wpAny (model PG w) A (forIn binds ⟨⟩ f) Q E s
  | [], m, cm, s, Q, x, _, h => by rw [List.forIn_nil]; exact wpAny_pure (h s x)
  | (n, v) :: r, m, cm, s, Q, x, hkind, h => by
    rw [List.forIn_cons, hf]
    rw [List.all_cons, Bool.and_eq_true] at hkind
    obtain ⟨hh, hr⟩ := hkind
    simp only [Bool.or_eq_true, Bool.and_eq_true, beq_iff_eq] at hh
    rcases hh with hl | ⟨hl, hc⟩
    · refine wpAny_bind (wpAny_bind (st x (fun s' x' => wpAny_pure (bind_params f hf hk hp hn r _ _ s' Q x' hr fun s'' x'' => h s'' ?_)) hl (by rw [hk]; rfl)))
      unfold bindL bindC; rw [if_pos hl, if_pos hl]; exact x''
    · obtain ⟨a, hc⟩ := Option.isSome_iff_exists.mp hc
      have hnl : ¬ env.kindOf n = some .local := by rw [hl]; decide
      refine wpAny_bind (wpAny_bind (stc x (cellLed_upd env.cells cm l v hp hn hc) (fun s' x' => wpAny_pure (bind_params f hf hk hp hn r _ _ s' Q x' hr fun s'' x'' => h s'' ?_)) hc hk hl))
      unfold bindL bindC; rw [if_neg hnl, if_neg hnl]; exact x''
end
section
variable {w : World} {c : Ctx0} {G : Array GenState} {Z : Zone} {ns : List (Addr × (Str → Option Value))} {l : List (Addr × Obj)} {s : Shared}
theorem S.turn {I : Addr} {io io' : Obj} {h' : Heap} (h : S w c G Z ns ((I, io) :: l) s) (tk : Nat) (hk : ∀ b o, b ≠ I → s.heap.get? b = some o → h'.get? b = some o) (hI : h'.get? I = some io') :
    S w c G Z ns ((I, io') :: l) { s with heap := h', toks := tk } := by
  have hnd := (List.nodup_append.mp h.nd).2.1
  refine h.chg [I] tk (by simp) (fun b o hb e => hk b o (fun q => hb (by simp [q])) e) ?_ ?_ hnd (by simp [hI])
  · intro p hp
    rcases List.mem_cons.mp hp with rfl | hp
    · exact hI
    · refine hk _ _ (fun q => ?_) (h.own p (.tail _ hp))
      exact (List.nodup_cons.mp hnd).1 (q ▸ List.mem_map_of_mem (f := (·.1)) hp)
  · intro p hp
    rcases List.mem_cons.mp hp with rfl | hp
    · exact .inl (.head _)
    · exact .inl (.tail _ (List.mem_map_of_mem (f := (·.1)) hp))
theorem S.dropI {I : Addr} {io : Obj} {h' : Heap} (h : S w c G Z ns ((I, io) :: l) s) (tk : Nat) (hk : ∀ b o, b ≠ I → s.heap.get? b = some o → h'.get? b = some o) (hTo : ∀ a ∈ c.T, a ∈ ns.map (·.1) ++ l.map (·.1)) :
    S w c G Z ns l { s with heap := h', toks := tk } := by
  have hm : I ∈ ns.map (·.1) ++ ((I, io) :: l).map (·.1) := List.mem_append_right _ (.head _)
  have hnd := List.nodup_append.mp h.nd
  have hzn := h.zo I hm
  have hne : ∀ a ∈ ns.map (·.1) ++ l.map (·.1), a ≠ I := fun a ha e => by
    rcases List.mem_append.mp ha with q | q
    · exact hnd.2.2 a q I (.head _) e
    · exact (List.nodup_cons.mp hnd.2.1).1 (e ▸ q)
  have hsub : ∀ a ∈ ns.map (·.1) ++ l.map (·.1), a ∈ ns.map (·.1) ++ ((I, io) :: l).map (·.1) := fun a ha => by
    rcases List.mem_append.mp ha with q | q
    · exact List.mem_append_left _ q
    · exact List.mem_append_right _ (.tail _ q)
  refine ⟨⟨h.base, h.zb, fun b o e => hk b o (fun e' => by rw [e', hzn] at e; cases e) (h.z b o e), h.zle, h.zf, fun b o q e => ?_, fun b hb => ?_, h.os, h.gens, h.bare⟩, ?_, ?_, fun a ha => h.zo a (hsub a ha), ?_, fun a ha => h.lo a (hsub a ha)⟩
  · refine hk b o (fun e' => ?_) (h.keep b o q e)
    rcases h.lo I hm with z | z
    · rw [e', z] at e; cases e
    · exact q (e' ▸ z)
  · obtain ⟨o, e⟩ := h.alive b (hsub b (hTo b hb))
    exact ⟨b, o, Nat.le_refl _, hk b o (hne b (hTo b hb)) e⟩
  · intro p hp
    exact (h.nss p hp).at' fun o e => hk _ o (hne _ (List.mem_append_left _ (List.mem_map_of_mem (f := (·.1)) hp))) e
  · intro p hp
    exact hk _ _ (hne _ (List.mem_append_right _ (List.mem_map_of_mem (f := (·.1)) hp))) (h.own p (.tail _ hp))
  · exact List.nodup_append.mpr ⟨hnd.1, (List.nodup_cons.mp hnd.2.1).2, fun a ha b hb => hnd.2.2 a ha b (.tail _ hb)⟩
/-- a namespace is forgotten -/
theorem S.dropNs {C : Addr} {mc : Str → Option Value} {h' : Heap} (h : S w c G Z ((C, mc) :: ns) l s) (hk : ∀ b o, b ≠ C → s.heap.get? b = some o → h'.get? b = some o) (hTo : ∀ a ∈ c.T, a ∈ ns.map (·.1) ++ l.map (·.1)) :
    S w c G Z ns l { s with heap := h' } := by
  have hm : C ∈ ((C, mc) :: ns).map (·.1) ++ l.map (·.1) := .head _
  have hnd := h.nd
  simp only [List.map_cons, List.cons_append, List.nodup_cons] at hnd
  have hzn := h.zo C hm
  have hne : ∀ a ∈ ns.map (·.1) ++ l.map (·.1), a ≠ C := fun a ha e => hnd.1 (e ▸ ha)
  have hsub : ∀ a ∈ ns.map (·.1) ++ l.map (·.1), a ∈ ((C, mc) :: ns).map (·.1) ++ l.map (·.1) := fun a ha => .tail _ ha
  refine ⟨⟨h.base, h.zb, fun b o e => hk b o (fun e' => by rw [e', hzn] at e; cases e) (h.z b o e), h.zle, h.zf, fun b o q e => ?_, fun b hb => ?_, h.os, h.gens, h.bare⟩, ?_, ?_, fun a ha => h.zo a (hsub a ha), hnd.2, fun a ha => h.lo a (hsub a ha)⟩
  · refine hk b o (fun e' => ?_) (h.keep b o q e)
    rcases h.lo C hm with z | z
    · rw [e', z] at e; cases e
    · exact q (e' ▸ z)
  · obtain ⟨o, e⟩ := h.alive b (hsub b (hTo b hb))
    exact ⟨b, o, Nat.le_refl _, hk b o (hne b (hTo b hb)) e⟩
  · intro p hp
    exact (h.nss p (.tail _ hp)).at' fun o e => hk _ o (hne _ (List.mem_append_left _ (List.mem_map_of_mem (f := (·.1)) hp))) e
  · intro p hp
    exact hk _ _ (hne _ (List.mem_append_right _ (List.mem_map_of_mem (f := (·.1)) hp))) (h.own p hp)
/-- the first two namespaces change places -/
theorem S.swap {p q : Addr × (Str → Option Value)} (h : S w c G Z (p :: q :: ns) l s) : S w c G Z (q :: p :: ns) l s := by
  have hp : ((q :: p :: ns).map (·.1) ++ l.map (·.1)).Perm ((p :: q :: ns).map (·.1) ++ l.map (·.1)) := List.Perm.swap _ _ _
  exact ⟨h.toZ0, fun x hx => h.nss x ((List.Perm.swap p q ns).subset hx), h.own, fun a ha => h.zo a (hp.subset ha), hp.nodup_iff.mpr h.nd, fun a ha => h.lo a (hp.subset ha)⟩
end
/-- an iterator's kind: what its object looks like at a place, what else must stand, what it gives -/
structure ItKind where
  n : Nat
  P : Nat → Value → Prop
  J : Nat → Obj → Prop
  side : Heap → Prop
/-- the library's walk, told by the object -/
structure Itr (w : World) (A : Around) (I : Addr) (K : ItKind) : Prop where
  item : ∀ i (s : Shared) (Q : Option Value → Shared → Prop) (E : Value → Shared → Prop) io, i < K.n → s.heap.get? I = some io → K.J i io → K.side s.heap →
    (∀ v h' tk io', K.P i v → h'.get? I = some io' → K.J (i + 1) io' → (∀ b o, b ≠ I → s.heap.get? b = some o → h'.get? b = some o) → Q (some v) { s with heap := h', toks := tk }) → wpAny (model PG w) A (pyNext (.ref I)) Q E s
  done : ∀ (s : Shared) (Q : Option Value → Shared → Prop) (E : Value → Shared → Prop) io, s.heap.get? I = some io → K.J K.n io → K.side s.heap →
    (∀ h' tk, (∀ b o, b ≠ I → s.heap.get? b = some o → h'.get? b = some o) → Q none { s with heap := h', toks := tk }) → wpAny (model PG w) A (pyNext (.ref I)) Q E s
  self : ∀ i (s : Shared) (Q : Value → Shared → Prop) (E : Value → Shared → Prop) io, s.heap.get? I = some io → K.J i io → K.side s.heap → Q (.ref I) s → wpAny (model PG w) A (pyIter (.ref I)) Q E s
theorem Itr.of {w : World} {A : Around} {I : Addr} {K : ItKind} {fp : List Addr} {St : Nat → Heap → Prop} (W : Walks PG w A I fp [I] K.n K.P St) (hin : ∀ i h io, h.get? I = some io → K.J i io → K.side h → St i h)
    (hout : ∀ i h, St i h → ∃ io, h.get? I = some io ∧ K.J i io) : Itr w A I K where
  item := fun i s Q E io hi hI hJ hs hQ => W.item i s Q E hi (hin i _ io hI hJ hs) fun v h' tk hP hst hk => by
    obtain ⟨io', e, hJ'⟩ := hout _ _ hst
    exact hQ v h' tk io' hP e hJ' fun b o hb => hk b o (fun q => hb (List.mem_singleton.mp q))
  done := fun s Q E io hI hJ hs hQ => W.done s Q E (hin _ _ io hI hJ hs) fun h' tk hk => hQ h' tk fun b o hb => hk b o (fun q => hb (List.mem_singleton.mp q))
  self := fun i s Q E io hI hJ hs hQ => W.self i s Q E (hin i _ io hI hJ hs) hQ
noncomputable def kList (ax : Addr) (vs : List Value) : ItKind where
  n := vs.length
  P := fun i v => vs[i]? = some v
  J := fun i io => io.cls = .type "list_iterator" ∧ io.data = .fields #[.ref ax, .int i 0]
  side := fun h => h.IsList ax vs.toArray
noncomputable def kTuple (ax : Addr) (vs : List Value) : ItKind where
  n := vs.length
  P := fun i v => vs[i]? = some v
  J := fun i io => io.cls = .type "tuple_iterator" ∧ io.data = .fields #[.ref ax, .int i 0]
  side := fun h => h.IsTuple ax vs.toArray
noncomputable def kRange (a : Int) (n : Nat) : ItKind where
  n := n
  P := fun i v => ∃ t, v = .int (a + i * 1) t
  J := fun i io => io = { cls := .type "range_iterator", dict := none, data := .fields #[rawInt (a + (i : Nat) * 1), rawInt ((n : Int) - (i : Nat)), rawInt 1], slots := #[] }
  side := fun _ => True
noncomputable def kStr (x : Str) (t : Tok) : ItKind where
  n := x.cps.size
  P := SignAt x
  J := fun i io => io.cls = .type "str_ascii_iterator" ∧ io.data = .fields #[.str x t, .int i 0]
  side := fun _ => True
theorem itr_list {w : World} {A : Around} (hh : A.handled = none) (I ax : Addr) (hne : ax ≠ I) (vs : List Value) : Itr w A I (kList ax vs) :=
  .of (K := kList ax vs) (fp := [I, ax]) (St := fun i h => h.IsListIter I ax i ∧ h.IsList ax vs.toArray) (by have := Walks.list (prog := PG) (w := w) hh I ax hne vs.toArray; simpa [kList] using this)
    (fun i h io e hJ hs => ⟨⟨io, e, hJ.1, hJ.2⟩, hs⟩) (fun i h hst => let ⟨⟨io, e, h1, h2⟩, _⟩ := hst; ⟨io, e, h1, h2⟩)
theorem itr_tuple {w : World} {A : Around} (hh : A.handled = none) (I ax : Addr) (hne : ax ≠ I) (vs : List Value) : Itr w A I (kTuple ax vs) :=
  .of (K := kTuple ax vs) (fp := [I, ax]) (St := fun i h => h.IsTupleIter I ax i ∧ h.IsTuple ax vs.toArray) (by have := Walks.tuple (prog := PG) (w := w) hh I ax hne vs.toArray; simpa [kTuple] using this)
    (fun i h io e hJ hs => ⟨⟨io, e, hJ.1, hJ.2⟩, hs⟩) (fun i h hst => let ⟨⟨io, e, h1, h2⟩, _⟩ := hst; ⟨io, e, h1, h2⟩)
theorem itr_range {w : World} {A : Around} (hh : A.handled = none) (I : Addr) (a : Int) (n : Nat) : Itr w A I (kRange a n) :=
  .of (K := kRange a n) (fp := [I]) (St := fun i h => IsRangeIter h I (a + (i : Nat) * 1) ((n : Int) - (i : Nat)) 1) (Walks.range (prog := PG) (w := w) hh I a 1 n)
    (fun i h io e hJ hs => by show h.get? I = _; rw [e, hJ]) (fun i h hst => ⟨_, hst, rfl⟩)
section
variable {w : World} {c : Ctx0} {G : Array GenState} {Z : Zone} {ns : List (Addr × (Str → Option Value))} {l : List (Addr × Obj)} {s : Shared} {A : Around} {E : Value → Shared → Prop} {K : ItKind} {I : Addr} {io : Obj}
theorem next_it {i : Nat} {Q : Option Value → Shared → Prop} (W : Itr w A I K) (h : S w c G Z ns ((I, io) :: l) s) (hJ : K.J i io) (hi : i ≤ K.n) (hs : K.side s.heap) (hTo : ∀ a ∈ c.T, a ∈ ns.map (·.1) ++ l.map (·.1))
    (kn : i = K.n → ∀ s', S w c G Z ns l s' → Q none s') (ks : i < K.n → ∀ v io' s', K.P i v → K.J (i + 1) io' → S w c G Z ns ((I, io') :: l) s' → Q (some v) s') : wpAny (model PG w) A (pyNext (.ref I)) Q E s := by
  by_cases e : i = K.n
  · subst e
    exact W.done s Q E io (h.own' (.head _)) hJ hs fun h' tk hk => kn rfl _ (h.dropI tk hk hTo)
  · exact W.item i s Q E io (by omega) (h.own' (.head _)) hJ hs fun v h' tk io' hP hI hJ' hk => ks (by omega) v io' _ hP hJ' (h.turn tk hk hI)
end
/-! ### list comprehensions of one 'for' -/
theorem compLoop_any {w : World} {A : Around} {R : Result → Shared → Prop} {s : Shared} {elt target iter : PySem.Expr} {ifs : List PySem.Expr} {scope : Scope} {pos : Pos} {it acc : Value} {env : Env} (I : Nat → Shared → Prop)
    (turn : ∀ n s, I n s → wpAny (model PG w) A (pyNext it) (fun r s₁ => match r with
      | none => R (.ok .next) s₁
      | some v => wpAny (model PG w) A (letOwnedTupleGo target it v) (fun _ s₁' => wpAny (model PG w) A (assign target env v) (fun _ s₂ =>
          wpAny (model PG w) A (forIn ifs true fun c r => if r = true then do let ok ← isTrue c env (eval c env); pure (ForInStep.yield ok) else pure (ForInStep.yield r)) (fun ok s₃ =>
            if ok = true then wpAny (model PG w) A (eval elt env) (fun x s₄ =>
              wpAny (model PG w) A (call (.builtin "list.append") [acc, x]) (fun _ s₅ => ∃ m, m < n ∧ I m s₅) (notedBy (model PG w) A env fun e s' => R (.error e) s') s₄) (notedBy (model PG w) A env fun e s' => R (.error e) s') s₃
            else ∃ m, m < n ∧ I m s₃) (notedBy (model PG w) A env fun e s' => R (.error e) s') s₂) (notedBy (model PG w) A env fun e s' => R (.error e) s') s₁') (notedBy (model PG w) A env fun e s' => R (.error e) s') s₁) (notedBy (model PG w) A env fun e s' => R (.error e) s') s)
    (n : Nat) (h : I n s) : codeAny (model PG w) A (.compLoop (.ListComp elt [⟨target, iter, ifs, 0⟩] scope pos) 0 it acc env) R s := by
  refine codeAny_loop rfl I (fun n s hI => ?_) n h
  show wpAny _ A ((compTurn (.ListComp elt [⟨target, iter, ifs, 0⟩] scope pos) 0 it acc env).onRaise (fun x => do noteFrame x env; theTreesLotGoes x)) _ _ s
  refine wpAny_noted ?_
  rw [compTurn_list]
  refine wpAny_bind (wpAny_standAt (wpAny_bind (wpAny_mono (turn n s hI) (fun r s₁ h₁ => ?_) fun _ _ h' => h')))
  cases r with
  | none => exact wpAny_pure h₁
  | some v =>
    refine wpAny_bind (wpAny_mono h₁ (fun _ s₁' h₁' => ?_) fun _ _ h' => h')
    refine wpAny_bind (wpAny_mono h₁' (fun _ s₂ h₂ => wpAny_bind (wpAny_mono h₂ (fun ok s₃ h₃ => ?_) fun _ _ h' => h')) fun _ _ h' => h')
    cases ok with
    | false => exact wpAny_pure ⟨rfl, h₃⟩
    | true => exact wpAny_bind (wpAny_bind (wpAny_mono h₃ (fun x s₄ h₄ => wpAny_bind (wpAny_mono h₄ (fun _ s₅ h₅ => wpAny_pure (wpAny_pure ⟨rfl, h₅⟩)) fun _ _ h' => h')) fun _ _ h' => h'))
section
variable {w : World} {s : Shared} {A : Around} {E : Value → Shared → Prop} {env : Env}
/-- append to an own list, by the call -/
theorem app_own {c : Ctx0} {G : Array GenState} {Z : Zone} {r : List (Addr × (Str → Option Value))} {l l' : List (Addr × Obj)} {D : Addr} {its : Array Value} {n : Nat} {y : Value} {Q : Value → Shared → Prop} (hS : S w c G Z r l s) (u : Upd D (W.listOf its n) (W.listOf (its.push y) (n + 1)) l l') (hsz : its.size ≤ sizeLine)
    (hQ : ∀ s', S w c G Z r l' s' → Q .none s') : wpAny (model PG w) A (call (.builtin "list.append") [.ref D, y]) Q E s := by
  have hl := isList_of (hS.own' u.mem)
  refine wpAny_call_entry slot_list_append hl.typeIs entry_list_append ?_ (args_list_append _ _)
  show wpAny _ _ (updateSeq D (·.push y) >>= fun _ => ret .none) _ _ s
  refine wpAny_bind (wpAny_updateSeq (hS.own' u.mem) rfl (wpAny_pure ⟨.none, rfl, hQ _ (hS.upd u ?_ rfl)⟩))
  show Obj.mapSeq (·.push y) (W.listOf its n) = _
  simp [Obj.mapSeq]
/-- the loop of a comprehension: what is made so far, the zone -/
theorem comp_loop {c : Ctx0} {G : Array GenState} {Z : Zone} {ns : List (Addr × (Str → Option Value))} {l : List (Addr × Obj)} {C D I : Addr} {io : Obj} {m : Str → Option Value} {elt target iter : PySem.Expr} {ifs : List PySem.Expr} {scope : Scope} {pos : Pos} {cenv : Env} {K : ItKind} {R : Result → Shared → Prop}
    (Inv : Nat → List Value → Zone → Prop) (hC : cenv.locals = C) (WI : Itr w A I K) (hJ : K.J 0 io) (hside : ∀ Z' m ys k io s, S w c G Z' ((C, m) :: ns) ((I, io) :: (D, W.listOf ys k) :: l) s → Z.le Z' → K.side s.heap) (hTo : ∀ a ∈ c.T, a ∈ ns.map (·.1) ++ l.map (·.1)) (hn : K.n ≤ 10000)
    (h : S w c G Z ((C, m) :: ns) ((I, io) :: (D, W.listOf [].toArray 0) :: l) s) (h0 : Inv 0 [] Z)
    (turn : ∀ i v ys Z' m k io s E, i < K.n → K.P i v → K.J (i + 1) io → Inv i ys Z' → Z.le Z' → S w c G Z' ((cenv.locals, m) :: ns) ((I, io) :: (D, W.listOf ys.toArray k) :: l) s →
      wpAny (model PG w) A (letOwnedTupleGo target (.ref I) v) (fun _ s₁' => wpAny (model PG w) A (assign target cenv v) (fun _ s₂ =>
          wpAny (model PG w) A (forIn ifs true fun c r => if r = true then do let ok ← isTrue c cenv (eval c cenv); pure (ForInStep.yield ok) else pure (ForInStep.yield r)) (fun ok s₃ =>
            if ok = true then wpAny (model PG w) A (eval elt cenv) (fun x s₄ => ∃ Z'' m, Z.le Z'' ∧ S w c G Z'' ((cenv.locals, m) :: ns) ((I, io) :: (D, W.listOf ys.toArray k) :: l) s₄ ∧ Inv (i + 1) (ys ++ [x]) Z'') E s₃
            else ∃ Z'' m, Z.le Z'' ∧ S w c G Z'' ((cenv.locals, m) :: ns) ((I, io) :: (D, W.listOf ys.toArray k) :: l) s₃ ∧ Inv (i + 1) ys Z'') E s₂) E s₁') E s)
    (fin : ∀ ys Z' m k s, Inv K.n ys Z' → Z.le Z' → S w c G Z' ((C, m) :: ns) ((D, W.listOf ys.toArray k) :: l) s → R (.ok .next) s) :
    codeAny (model PG w) A (.compLoop (.ListComp elt [⟨target, iter, ifs, 0⟩] scope pos) 0 (.ref I) (.ref D) cenv) R s := by
  subst hC
  refine compLoop_any (fun n s => ∃ i ys Z' m k io, n = K.n - i ∧ i ≤ K.n ∧ ys.length ≤ i ∧ K.J i io ∧ Inv i ys Z' ∧ Z.le Z' ∧ S w c G Z' ((cenv.locals, m) :: ns) ((I, io) :: (D, W.listOf ys.toArray k) :: l) s) ?_ _ ⟨0, [], Z, m, 0, io, rfl, Nat.zero_le _, Nat.le_refl _, hJ, h0, .refl Z, h⟩
  rintro n s ⟨i, ys, Z', m, k, io, rfl, hi, hys, hJ, hI, hle, hS⟩
  refine next_it WI hS hJ hi (hside _ _ _ _ _ _ hS hle) (fun a ha => ?_) ?_ ?_
  · have := hTo a ha
    simp only [List.map_cons, List.mem_append, List.mem_cons, List.cons_append] at this ⊢
    rcases this with q | q
    · exact .inr (.inl q)
    · exact .inr (.inr (.inr q))
  · rintro rfl s' hS'
    exact fin ys Z' m k s' hI hle hS'
  · intro hlt v io' s' hP hJ' hS'
    refine wpAny_mono (turn i v ys Z' m k io' s' _ hlt hP hJ' hI hle hS') (fun _ s₁ h₁ => wpAny_mono h₁ (fun _ s₂ h₂ => wpAny_mono h₂ (fun ok s₃ h₃ => ?_) fun _ _ x => x) fun _ _ x => x) fun _ _ x => x
    cases ok with
    | false =>
      simp only [Bool.false_eq_true, if_false] at h₃ ⊢
      obtain ⟨Z'', m', hle', hS'', hI''⟩ := h₃
      exact ⟨K.n - (i + 1), by omega, i + 1, ys, Z'', m', k, io', rfl, hlt, by omega, hJ', hI'', hle', hS''⟩
    | true =>
      simp only [if_true] at h₃ ⊢
      refine wpAny_mono h₃ (fun x s₄ h₄ => ?_) fun _ _ x => x
      obtain ⟨Z'', m', hle', hS'', hI''⟩ := h₄
      refine app_own hS'' (.tail .head) (by rw [List.size_toArray, sizeLine_eq]; omega) fun s₅ hS₅ => ?_
      rw [List.push_toArray] at hS₅
      exact ⟨K.n - (i + 1), by omega, i + 1, ys ++ [x], Z'', m', k + 1, io', rfl, hlt, by simp; omega, hJ', hI'', hle', hS₅⟩
end
section
variable {w : World} {s : Shared} {A : Around} {E : Value → Shared → Prop} {env : Env}
/-- what one turn of a comprehension's loop does -/
noncomputable abbrev CompTurn (w : World) (A : Around) (env : Env) (elt target : PySem.Expr) (ifs : List PySem.Expr) (scope : Scope) (cl : List (Str × Addr)) (c : Ctx0) (G : Array GenState) (Z : Zone) (ns : List (Addr × (Str → Option Value))) (l : List (Addr × Obj)) (I : Addr) (K : ItKind) (Inv : Nat → List Value → Zone → Prop) : Prop :=
  ∀ C D i v ys Z' m k io s E, i < K.n → K.P i v → K.J (i + 1) io → Inv i ys Z' → Z.le Z' → S w c G Z' ((C, m) :: ns) ((I, io) :: (D, W.listOf ys.toArray k) :: l) s →
      wpAny (model PG w) A (letOwnedTupleGo target (.ref I) v) (fun _ s₁' => wpAny (model PG w) A (assign target (compEnvC scope cl C env) v) (fun _ s₂ =>
          wpAny (model PG w) A (forIn ifs true fun c r => if r = true then do let ok ← isTrue c (compEnvC scope cl C env) (eval c (compEnvC scope cl C env)); pure (ForInStep.yield ok) else pure (ForInStep.yield r)) (fun ok s₃ =>
            if ok = true then wpAny (model PG w) A (eval elt (compEnvC scope cl C env)) (fun x s₄ => ∃ Z'' m, Z.le Z'' ∧ S w c G Z'' ((C, m) :: ns) ((I, io) :: (D, W.listOf ys.toArray k) :: l) s₄ ∧ Inv (i + 1) (ys ++ [x]) Z'') E s₃
            else ∃ Z'' m, Z.le Z'' ∧ S w c G Z'' ((C, m) :: ns) ((I, io) :: (D, W.listOf ys.toArray k) :: l) s₃ ∧ Inv (i + 1) ys Z'') E s₂) E s₁') E s
theorem comp_core {c : Ctx0} {G : Array GenState} {Z : Zone} {p : Addr × (Str → Option Value)} {r : List (Addr × (Str → Option Value))} {l : List (Addr × Obj)} {I : Addr} {io : Obj} {elt target iter : PySem.Expr} {ifs : List PySem.Expr} {scope : Scope} {cl : List (Str × Addr)} {pos : Pos} {K : ItKind} {RR : Value → Addr → Result → Shared → Prop}
    (Inv : Nat → List Value → Zone → Prop) (WI : Itr w A I K) (hJ : K.J 0 io) (hn : K.n ≤ 10000) (h : S w c G Z (p :: r) ((I, io) :: l) s) (hTo : ∀ a ∈ c.T, a ∈ (p :: r).map (·.1) ++ l.map (·.1)) (h0 : Inv 0 [] Z)
    (hside : ∀ Z' ns' a b s, S w c G Z' (ns' :: p :: r) (a :: b :: l) s → Z.le Z' → K.side s.heap)
    (turn : CompTurn w A env elt target ifs scope cl c G Z (p :: r) l I K Inv)
    (hcell : (scope.names.all fun x => !(x.2 == .cell)) = true) (hkind : scope.kind = .function)
    (fin : ∀ C D ys Z' m k s', c.sc.heap.get? D = none → Inv K.n ys Z' → Z.le Z' → S w c G Z' ((C, m) :: p :: r) ((D, W.listOf ys.toArray k) :: l) s' → RR (.ref D) C (.ok .next) s') :
    wpAny (model PG w) A (newList []) (fun acc s₃ => wpAny (model PG w) A (newFunctionEnv scope env.globals cl [] env.qual none .none (some env)) (fun cenv s₄ =>
      codeAny (model PG w) A (.compStart (.ListComp elt [⟨target, iter, ifs, 0⟩] scope pos) 0 (.ref I) acc { cenv with scope := relabel scope env }) (RR acc cenv.locals) s₄) E s₃) E s := by
  refine wpAny_newObj_type (wpAny_newFunctionEnv (fun x hx q => by have := List.all_eq_true.mp hcell x hx; rw [q] at this; exact absurd this (by decide)) (by intro y hy; simp at hy) (fun h₁ hns₁ hsb₁ => ?_) hkind)
  have hS1 := h.push (W.listOf ([] : List Value).toArray 0) rfl
  have hD := h.new
  have hS2 := hS1.newNs (h' := h₁) hns₁ (fun b o e => hsb₁.extBut b o (Nat.ne_of_lt (Heap.lt_size e)) (Heap.get?_push_of_some _ e)) (s.toks + ([] : List (Str × Value)).length)
  have hS3 := (hS2.swap).perm (l' := (I, io) :: (s.heap.objs.size, W.listOf ([] : List Value).toArray 0) :: l) (List.Perm.swap _ _ _)
  have loop : codeAny (model PG w) A (.compLoop (.ListComp elt [⟨target, iter, ifs, 0⟩] scope pos) 0 (.ref I) (.ref s.heap.objs.size) (compEnvC scope cl (s.heap.push (W.listOf ([] : List Value).toArray 0)).objs.size env))
      (RR (.ref s.heap.objs.size) (s.heap.push (W.listOf ([] : List Value).toArray 0)).objs.size) { s with heap := h₁, toks := s.toks + ([] : List (Str × Value)).length } := by
    refine comp_loop (C := (s.heap.push (W.listOf ([] : List Value).toArray 0)).objs.size) (cenv := compEnvC scope cl (s.heap.push (W.listOf ([] : List Value).toArray 0)).objs.size env) Inv rfl WI hJ (fun Z' m ys k io s' hS hle => hside Z' _ _ _ s' hS hle) hTo hn hS3 h0 (fun i v ys Z' m k io s' E hlt hP hJ' hI hle hS => turn _ _ i v ys Z' m k io s' E hlt hP hJ' hI hle hS) fun ys Z' m k s' hI hle hS => fin _ _ ys Z' m k s' hD hI hle hS
  exact codeAny_compStart_list loop (WI.self 0 _ _ _ io (hS3.own' (.head _)) hJ (hside Z _ _ _ _ hS3 (.refl Z)) loop)
inductive compQ2 (w : World) (A : Around) (env : Env) (elt target : PySem.Expr) (ifs : List PySem.Expr) (scope : Scope) (cl : List (Str × Addr)) (Q : Value → Shared → Prop) (it : Value) (s₂ : Shared) : Prop
  | mk (c : Ctx0) (G : Array GenState) (Z : Zone) (p : Addr × (Str → Option Value)) (r : List (Addr × (Str → Option Value))) (l : List (Addr × Obj)) (I : Addr) (io : Obj) (K : ItKind) (Inv : Nat → List Value → Zone → Prop)
      (hit : it = .ref I) (WI : Itr w A I K) (hJ : K.J 0 io) (hn : K.n ≤ 10000) (hS : S w c G Z (p :: r) ((I, io) :: l) s₂) (hTo : ∀ a ∈ c.T, a ∈ (p :: r).map (·.1) ++ l.map (·.1)) (h0 : Inv 0 [] Z)
      (hside : ∀ Z' ns' a b s, S w c G Z' (ns' :: p :: r) (a :: b :: l) s → Z.le Z' → K.side s.heap) (turn : CompTurn w A env elt target ifs scope cl c G Z (p :: r) l I K Inv)
      (hQ : ∀ D ys Z' k s', c.sc.heap.get? D = none → Inv K.n ys Z' → Z.le Z' → S w c G Z' (p :: r) ((D, W.listOf ys.toArray k) :: l) s' → Q (.ref D) s') : compQ2 w A env elt target ifs scope cl Q it s₂
noncomputable abbrev compQ (w : World) (A : Around) (E : Value → Shared → Prop) (env : Env) (elt target : PySem.Expr) (ifs : List PySem.Expr) (scope : Scope) (cl : List (Str × Addr)) (Q : Value → Shared → Prop) : Value → Shared → Prop := fun xv s₁ => wpAny (model PG w) A (pyIter xv) (compQ2 w A env elt target ifs scope cl Q) E s₁
/-- a list comprehension of one 'for', as an expression -/
theorem comp {elt target iter : PySem.Expr} {ifs : List PySem.Expr} {scope : Scope} {cl : List (Str × Addr)} {pos : Pos} {Q : Value → Shared → Prop}
    (h : wpAny (model PG w) A (eval iter env) (compQ w A E env elt target ifs scope cl Q) E s)
    (hclos : closureFor scope env = pure cl := by kernel_rfl)
    (hcell : (scope.names.all fun x => !(x.2 == .cell)) = true := by kernel_rfl) (hkind : scope.kind = .function := by kernel_rfl)
    (hnames : (scope.names.all fun x => !(x.2 == .local) || scope.names.lookup x.1 == some .local) = true := by kernel_rfl)
    (hs : (fun x => foldedSetIterable iter env x) = fun x => pure x := by kernel_rfl) :
    wpAny (model PG w) A (eval (.ListComp elt [⟨target, iter, ifs, 0⟩] scope pos) env) Q E s := by
  rw [eval_ListComp]
  refine wpAny_comprehension_free (use := none) rfl (fun x => congrFun hs x) hclos hkind (fun x hx hl => by have := List.all_eq_true.mp hnames x hx; rw [hl] at this; simpa using this) (wpAny_mono h (fun xv s₁ h₁ => wpAny_mono h₁ (fun it s₂ h₂ => ?_) fun _ _ e => e) fun _ _ e => e)
  obtain ⟨c, G, Z, p, r, l, I, io, K, Inv, rfl, WI, hJ, hn, hS, hTo, h0, hside, turn, hQ⟩ := h₂
  refine comp_core (RR := fun acc C => compPost (model PG w) A E none Q acc C) Inv WI hJ hn hS hTo h0 hside turn hcell hkind ?_
  intro C D ys Z' m k s' hD hI hle hS'
  exact ⟨m, hS'.nss _ (.head _), fun h' hs' => hQ D ys Z' k _ hD hI hle (hS'.dropNs hs'.extBut (fun a ha => by
    have := hTo a ha
    simp only [List.map_cons, List.mem_append, List.mem_cons, List.cons_append] at this ⊢
    rcases this with q | q | q
    · exact .inl q
    · exact .inr (.inl q)
    · exact .inr (.inr (.inr q))))⟩
inductive compAQ2 (w : World) (A : Around) (env : Env) (elt target : PySem.Expr) (ifs : List PySem.Expr) (scope : Scope) (cl : List (Str × Addr)) (x : Str) (Q : Flow → Shared → Prop) (it : Value) (s₂ : Shared) : Prop
  | mk (c : Ctx0) (G : Array GenState) (Z : Zone) (me : Str → Option Value) (r : List (Addr × (Str → Option Value))) (l : List (Addr × Obj)) (I : Addr) (io : Obj) (K : ItKind) (Inv : Nat → List Value → Zone → Prop)
      (hit : it = .ref I) (WI : Itr w A I K) (hJ : K.J 0 io) (hn : K.n ≤ 10000) (hS : S w c G Z ((env.locals, me) :: r) ((I, io) :: l) s₂) (hTo : ∀ a ∈ c.T, a ∈ ((env.locals, me) :: r).map (·.1) ++ l.map (·.1)) (h0 : Inv 0 [] Z)
      (hside : ∀ Z' ns' a b s, S w c G Z' (ns' :: (env.locals, me) :: r) (a :: b :: l) s → Z.le Z' → K.side s.heap) (turn : CompTurn w A env elt target ifs scope cl c G Z ((env.locals, me) :: r) l I K Inv)
      (hQ : ∀ D ys Z' k s', c.sc.heap.get? D = none → Inv K.n ys Z' → Z.le Z' → S w c G Z' ((env.locals, fun y => if y = x then some (.ref D) else me y) :: r) ((D, W.listOf ys.toArray k) :: l) s' → Q .next s') : compAQ2 w A env elt target ifs scope cl x Q it s₂
noncomputable abbrev compAQ (w : World) (A : Around) (E : Value → Shared → Prop) (env : Env) (elt target : PySem.Expr) (ifs : List PySem.Expr) (scope : Scope) (cl : List (Str × Addr)) (x : Str) (Q : Flow → Shared → Prop) : Value → Shared → Prop := fun xv s₁ => wpAny (model PG w) A (pyIter xv) (compAQ2 w A env elt target ifs scope cl x Q) E s₁
/-- x = [comprehension], x a plain name -/
theorem comp_asg {elt target iter : PySem.Expr} {ifs : List PySem.Expr} {scope : Scope} {cl : List (Str × Addr)} {pos spos px : Pos} {x : Str} {Q : Flow → Shared → Prop}
    (h : wpAny (model PG w) A (eval iter env) (compAQ w A E env elt target ifs scope cl x Q) E s)
    (hsw : swapsWith (.ListComp elt [⟨target, iter, ifs, 0⟩] scope pos) (some (.Name x px)) spos.line env = pure true := by kernel_rfl)
    (hclos : closureFor scope env = pure cl := by kernel_rfl)
    (hcell : (scope.names.all fun x => !(x.2 == .cell)) = true := by kernel_rfl) (hkind : scope.kind = .function := by kernel_rfl)
    (hnames : (scope.names.all fun x => !(x.2 == .local) || scope.names.lookup x.1 == some .local) = true := by kernel_rfl)
    (hs : (fun x => foldedSetIterable iter env x) = fun x => pure x := by kernel_rfl)
    (hy : env.kindOf x = some .local := by kernel_rfl) (hp : (env.scope.kind == .class || (env.scope.kind == .module && env.locals != env.globals)) = false := by kernel_rfl) :
    wpAny (model PG w) A (exec (.Assign [.Name x px] (.ListComp elt [⟨target, iter, ifs, 0⟩] scope pos) spos) env) Q E s := by
  rw [exec_Assign_Name_used _ _ _ _ hsw]
  refine wpAny_bind (wpAny_standAt (wpAny_bind ?_))
  show wpAny _ A (do let _ ← comprehension (.ListComp elt [⟨target, iter, ifs, 0⟩] scope pos) scope env _ (newList []) false (eval iter env) (some (assign (.Name x px) env))) _ _ s
  refine wpAny_bind (wpAny_mono (wpAny_comprehension_free (use := some (assign (.Name x px) env)) (Q := fun _ s' => Q .next s') rfl (fun x => congrFun hs x) hclos hkind (fun x hx hl => by have := List.all_eq_true.mp hnames x hx; rw [hl] at this; simpa using this)
    (wpAny_mono h (fun xv s₁ h₁ => wpAny_mono h₁ (fun it s₂ h₂ => ?_) fun _ _ e => e) fun _ _ e => e)) (fun _ s' hq => wpAny_pure (wpAny_pure hq)) fun _ _ e => e)
  obtain ⟨c, G, Z, me, r, l, I, io, K, Inv, rfl, WI, hJ, hn, hS, hTo, h0, hside, turn, hQ⟩ := h₂
  refine comp_core (RR := fun acc C => compPost (model PG w) A E (some (assign (.Name x px) env)) (fun _ s' => Q .next s') acc C) Inv WI hJ hn hS hTo h0 hside turn hcell hkind ?_
  intro C D ys Z' m k s' hD hI hle hS'
  show wpAny _ A (assign (.Name x px) env (.ref D)) _ _ _
  refine wpAny_assign_Name (st hS'.swap (fun s'' hS'' => ?_) hy hp)
  refine ⟨m, hS''.nss _ (.tail _ (.head _)), fun h' hs' => ?_⟩
  refine hQ D ys Z' k _ hD hI hle (hS''.swap.dropNs hs'.extBut (fun a ha => ?_))
  have := hTo a ha
  simp only [List.map_cons, List.mem_append, List.mem_cons, List.cons_append] at this ⊢
  rcases this with q | q | q
  · exact .inl q
  · exact .inr (.inl q)
  · exact .inr (.inr (.inr q))
/-- an iterator over a list -/
theorem iter_list {c : Ctx0} {G : Array GenState} {Z : Zone} {ns : List (Addr × (Str → Option Value))} {l : List (Addr × Obj)} {a : Addr} {vs : List Value} {n : Nat} {Q : Value → Shared → Prop} (hS : S w c G Z ns l s) (ha : s.heap.get? a = some (W.listOf vs.toArray n))
    (k : ∀ I io s', a ≠ I → (kList a vs).J 0 io → c.sc.heap.get? I = none → S w c G Z ns ((I, io) :: l) s' → Q (.ref I) s') : wpAny (model PG w) A (pyIter (.ref a)) Q E s := by
  refine wpAny_pyIter_list (isList_of ha) (k _ _ _ (Nat.ne_of_lt (Heap.lt_size ha)) ⟨rfl, rfl⟩ hS.new (hS.push _ rfl))
theorem iter_tuple {c : Ctx0} {G : Array GenState} {Z : Zone} {ns : List (Addr × (Str → Option Value))} {l : List (Addr × Obj)} {a : Addr} {vs : List Value} {Q : Value → Shared → Prop} (hS : S w c G Z ns l s) (ha : s.heap.get? a = some (tupObj vs))
    (k : ∀ I io s', a ≠ I → (kTuple a vs).J 0 io → c.sc.heap.get? I = none → S w c G Z ns ((I, io) :: l) s' → Q (.ref I) s') : wpAny (model PG w) A (pyIter (.ref a)) Q E s := by
  refine wpAny_pyIter_tuple ⟨_, ha, rfl, _, rfl⟩ (k _ _ _ (Nat.ne_of_lt (Heap.lt_size ha)) ⟨rfl, rfl⟩ hS.new (hS.push _ rfl))
theorem iter_str {c : Ctx0} {G : Array GenState} {Z : Zone} {ns : List (Addr × (Str → Option Value))} {l : List (Addr × Obj)} {x : Str} {t : Tok} {Q : Value → Shared → Prop} (hS : S w c G Z ns l s) (hx : x.cps.all (· < 128) = true)
    (k : ∀ I io s', (kStr x t).J 0 io → c.sc.heap.get? I = none → S w c G Z ns ((I, io) :: l) s' → Q (.ref I) s') : wpAny (model PG w) A (pyIter (.str x t)) Q E s := by
  refine wpAny_pyIter_ascii hx (k _ _ _ ⟨rfl, rfl⟩ hS.new (hS.push _ rfl))
end
/-! ### an object of class Headers -/
noncomputable abbrev hdI (dx : Addr) : Obj := W.instObj 182 dx
noncomputable abbrev hdD (w : World) (tk : Tok) (hl : Addr) : Obj := W.dictOf [⟨PyData.keyHash w.params (Str.ofString "_headers"), .str (Str.ofString "_headers") tk, .ref hl⟩] 1
section
variable {w : World} {c : Ctx0} {G : Array GenState} {Z : Zone} {r : List (Addr × (Str → Option Value))} {l : List (Addr × Obj)} {l' : Tok → List (Addr × Obj)} {s : Shared} {A : Around} {E : Value → Shared → Prop} {env : Env} {x dx hl : Addr} {tk : Tok}
theorem hdAt (hx : s.heap.get? x = some (hdI dx)) (hd : s.heap.get? dx = some (hdD w tk hl)) : W.InstAt s.heap x (hdI dx) 182 (some (hdD w tk hl)) := ⟨hx, rfl, rfl, hd⟩
/-- x._headers -/
theorem get_hdr {expr : Bool} {Q : Value → Shared → Prop} (h : S w c G Z r l s) (hx : s.heap.get? x = some (hdI dx)) (hd : s.heap.get? dx = some (hdD w tk hl)) (hq : ∀ s', S w c G Z r l s' → Q (.ref hl) s') :
    wpAny (model PG w) A (getAttr (.ref x) (Str.ofString "_headers") expr) Q E s :=
  W.get_value (K := KF w) (v := .ref hl) h.kin (hdAt hx hd) (by kernel_rfl) (by kernel_rfl) (by kernel_rfl) (hq _ (h.toks _))
/-- n._headers, n a plain name -/
theorem ld_hdr {n : Str} {np pos : Pos} {m : Str → Option Value} {Q : Value → Shared → Prop} (h : S w c G Z ((env.locals, m) :: r) l s) (hn : m n = some (.ref x)) (hx : s.heap.get? x = some (hdI dx)) (hd : s.heap.get? dx = some (hdD w tk hl)) (hq : ∀ s', S w c G Z ((env.locals, m) :: r) l s' → Q (.ref hl) s')
    (he : eval (.Attribute (.Name n np) (Str.ofString "_headers") pos) env = (do
      let o ← eval (.Name n np) env
      standAt pos.atName
      let r ← holding [o] (getAttr o (Str.ofString "_headers") true)
      letTemporaryGo (.Name n np) o r
      pure r) := by kernel_rfl)
    (hk : env.scope.kind = .function := by kernel_rfl) (hl' : env.kindOf n = some .local := by kernel_rfl) (hdb : (n == ("__debug__" : Str)) = false := by decide) :
    wpAny (model PG w) A (eval (.Attribute (.Name n np) (Str.ofString "_headers") pos) env) Q E s :=
  Attribute_Name_ (ld h hn (get_hdr h hx hd hq) hk hl' hdb) he
theorem Upd.mem' {a : Addr} {o o' : Obj} {l l' : List (Addr × Obj)} (u : Upd a o o' l l') : (a, o') ∈ l' := by
  induction u with
  | head => exact .head _
  | tail _ ih => exact .tail _ ih
/-- x._headers = v for a new one -/
theorem set_hdr {v : Value} {Q : Unit → Shared → Prop} (h : S w c G Z r l s) (hx : s.heap.get? x = some (hdI dx)) (u : ∀ tk, Upd dx W.emptyDict { cls := .type "dict", data := .dict #[⟨PyData.keyHash w.params (Str.ofString "_headers"), .str (Str.ofString "_headers") tk, v⟩] 1 } l (l' tk))
    (hq : ∀ tk s', S w c G Z r (l' tk) s' → Q () s') : wpAny (model PG w) A (setAttr (.ref x) (Str.ofString "_headers") v) Q E s := by
  have hd := h.own' (u 0).mem
  have I : W.InstAt s.heap x (hdI dx) 182 (some W.emptyDict) := ⟨hx, rfl, rfl, hd⟩
  refine W.set_plain (K := KF w) h.kin I (by kernel_rfl) ?_
  refine W.osa_open (K := KF w) (s := { s with toks := s.toks + 1 }) (r := none) h.kin I (by kernel_rfl) (by kernel_rfl) fun b => ?_
  have hc : ∃ cd, W.clsIn (KF w) 182 = some cd ∧ cd.hasDict = true := by
    have : (W.clsIn (KF w) 182).any (·.hasDict) = true := by kernel_rfl
    exact W.any_some this
  obtain ⟨cd, hc, hd'⟩ := hc
  refine wpAny_bind (wpAny_pure (wpAny_bind (wpAny_bind (wpAny_loadPart hx (wpAny_bind ((W.looks_clsIn (h.toks (s.toks + 1)).kin hc).here ?_))))))
  rw [hd']
  refine wpAny_pure (a := some dx) (wpAny_bind (wpAny_pure (wpAny_bind ?_)))
  unfold nsSet
  refine wpAny_bind (wpAny_bind (wpAny_askSetting (wpAny_pure (wpAny_bind (wpAny_mkText (wpAny_bind (wpAny_loadPart hd ?_)))))))
  dsimp only
  rw [aRefKeyMayBeTheName_at, show ((!(#[] : Array DictEntry).any (·.key.isStr (Str.ofString "_headers"))) && (#[] : Array DictEntry).any (·.refKey)) = false from by simp]
  have hS2 := (h.toks (s.toks + 1)).toks (s.toks + 1 + 1)
  have hS3 := hS2.upd (u (s.toks + 1)) (f := Obj.putName (Str.ofString "_headers") (PyData.keyHash w.params (Str.ofString "_headers")) (.str (Str.ofString "_headers") (s.toks + 1)) v) (by kernel_rfl) rfl
  refine wpAny_updatePart hd ?_
  refine wpAny_bind (wpAny_lookBehind (hS3.own' (u _).mem') ?_ ?_)
  · exact pastItsLine_dict (by show 1 ≤ sizeLine + 1; decide)
  exact wpAny_pure (hq _ _ hS3)
end
section
variable {w : World} {c : Ctx0} {G : Array GenState} {Z : Zone} {l : List (Addr × Obj)} {s : Shared} {A : Around} {E : Value → Shared → Prop} {env : Env}
/-- a def is entered; its arguments are bound on the way from s₀ -/
theorem enterG {R : Result → Shared → Prop} {a : Addr} {o : Obj} {fd : FuncData} {body : List Stmt} {args : Args} {binds : List (Str × Value)} {T : List Addr} {n : Nat}
    {s₀ : Shared} (hr : Rm A (n + 1)) (h₀ : (KF w).In s₀.heap) (h : Z0 w c G Z s) (ho : (KF w).lookup a = some o) (hd : o.data = .func fd) (hcd : codeIn (KF w) fd.code fd.qualname = true) (hb : fd.body = .stmts body) (hbind : ∀ (Q : List (Str × Value) → Shared → Prop) (E : Value → Shared → Prop), Q binds s → wpAny (model PG w) A.in1 (bindArgs fd args) Q E s₀)
    (hT : ∀ p ∈ l, s.heap.get? p.1 = some p.2 ∧ Z p.1 = none ∧ p.1 ∈ T) (hnd : (l.map (·.1)).Nodup) (hTa : ∀ a ∈ T, ∃ o, s.heap.get? a = some o)
    (k : ∀ L s', S w ⟨c.H, s, T, Z⟩ G Z [((callEnvC fd L a).locals, bindL (callEnvC fd L a).kindOf binds fun _ => none)] (cellLed (callEnvC fd L a).cells (bindC (callEnvC fd L a).kindOf binds fun _ => none) ++ l) s' → Rm (A.deeper (callEnvC fd L a)) n →
      wpAny (model PG w) (A.deeper (callEnvC fd L a)) (execs body (callEnvC fd L a)) (flowQ R)
        (errQ (model PG w) A (callEnvC fd L a) R) s')
    (hclo : fd.closure = [] := by kernel_rfl)
    (hloc : (fun L : Nat => binds.all fun x => (callEnvC fd L a).kindOf x.1 == some .local || ((callEnvC fd L a).kindOf x.1 == some .cell && ((callEnvC fd L a).cells.lookup x.1).isSome)) = fun _ => true := by kernel_rfl)
    (hnn : decide ((fd.scope.names.map (·.1)).Nodup) = true := by kernel_rfl)
    (hco : fd.scope.isCoroutine = false := by kernel_rfl) (hgen : fd.scope.isGenerator = false := by kernel_rfl) (hk : fd.scope.kind = .function := by kernel_rfl) :
    codeAny (model PG w) A (.call (.ref a) args) R s₀ := by
  refine codeAny_call_function hr.lt (h₀ _ _ ho) hd hco hgen hb (codeRec_of h₀ hcd) ?_
  rw [hclo]
  refine hbind _ _ ?_
  simp only [newFunctionEnv, Option.isSome_none, Bool.false_eq_true, if_false]
  refine wpAny_bind (wpAny_alloc ?_)
  refine wpAny_bind (wpAny_layCells _ (fun name kind cells => by cases hkc : kind == NameKind.cell <;> simp [hkc]) _ _ _ _ ?_)
  have ok := cellsFrom_ok fd.scope.names (s.heap.push { cls := .type "frame", data := .dict #[] }) (s.heap.objs.size + 1) [] ⟨fun _ _ hm => (nomatch hm), List.Pairwise.nil⟩ (by rw [Heap.size_push]; exact Nat.le_refl _)
  have hat := pushCells_at fd.scope.names (s.heap.push { cls := .type "frame", data := .dict #[] }) []
  rw [Heap.size_push] at ok hat
  rw [show ({ s with heap := s.heap.push { cls := .type "frame", data := .dict #[] } } : Shared).heap.objs.size = s.heap.objs.size + 1 from Heap.size_push ..]
  generalize hH : pushCells (s.heap.push { cls := .type "frame", data := .dict #[] }) fd.scope.names = H' at ok hat
  have hkeep : ∀ b o, s.heap.get? b = some o → H'.get? b = some o := fun b o e => by rw [← hH]; exact pushCells_keeps _ _ b o (Heap.get?_push_of_some _ e)
  have hns : H'.Ns s.heap.objs.size (fun _ => none) := by rw [← hH]; exact (Heap.Ns.new s.heap (.type "frame")).keeps (pushCells_keeps _ _)
  have z := h.start T hTa
  have hz : Z s.heap.objs.size = none := h.newZ
  have new : ∀ b, s.heap.objs.size ≤ b → s.heap.get? b = none := fun b hb => by
    cases e : s.heap.get? b with
    | none => rfl
    | some o' => exact absurd (Heap.lt_size e) (Nat.not_lt.mpr hb)
  have newZ : ∀ b, s.heap.objs.size ≤ b → Z b = none := fun b hb => by
    cases e : Z b with
    | none => rfl
    | some o' => have := h.z _ _ e; rw [new b hb] at this; cases this
  have hcs : ∀ p ∈ cellsFrom (s.heap.objs.size + 1) fd.scope.names [], s.heap.objs.size + 1 ≤ p.2 ∧ H'.get? p.2 = some (cellO none) := fun p hp => by
    rcases hat p.1 p.2 hp with q | q
    · cases q
    · exact q
  have hl : ∀ p ∈ l, p.1 < s.heap.objs.size := fun p hp => Heap.lt_size (hT p hp).1
  have hS : S w ⟨c.H, s, T, Z⟩ G Z [((callEnvC fd s.heap.objs.size a).locals, fun _ => none)] (cellLed (callEnvC fd s.heap.objs.size a).cells (fun _ => none) ++ l) { s with heap := H' } := by
    refine ⟨⟨z.base, z.zb, fun b o e => hkeep b o (z.z b o e), z.zle, z.zf, fun b o _ e => hkeep b o e, fun a ha => let ⟨o, e⟩ := hTa a ha; ⟨a, o, Nat.le_refl _, hkeep a o e⟩, rfl, z.gens, z.bare⟩, ?_, ?_, ?_, ?_, ?_⟩
    · intro p hp; rw [List.mem_singleton.mp hp]; exact hns
    · intro p hp
      rcases List.mem_append.mp hp with hp | hp
      · obtain ⟨q, hq, rfl⟩ := List.mem_map.mp hp
        exact (hcs q hq).2
      · exact hkeep _ _ (hT p hp).1
    · intro b hb
      rw [List.map_append, cellLed_keys] at hb
      rcases List.mem_append.mp hb with hb | hb
      · rw [List.mem_singleton.mp hb]; exact hz
      · rcases List.mem_append.mp hb with hb | hb
        · obtain ⟨q, hq, rfl⟩ := List.mem_map.mp hb
          exact newZ _ (Nat.le_of_succ_le (hcs q hq).1)
        · obtain ⟨p, hp, rfl⟩ := List.mem_map.mp hb; exact (hT p hp).2.1
    · rw [List.map_append, cellLed_keys]
      show (s.heap.objs.size :: ((callEnvC fd s.heap.objs.size a).cells.map (·.2) ++ l.map (·.1))).Nodup
      refine List.nodup_cons.mpr ⟨fun q => ?_, List.nodup_append.mpr ⟨List.pairwise_map.mpr ok.apart, hnd, fun b hb d hd e => ?_⟩⟩
      · rcases List.mem_append.mp q with q | q
        · obtain ⟨p, hp, e⟩ := List.mem_map.mp q
          have := (hcs p hp).1
          have e : p.2 = s.heap.objs.size := e
          rw [e] at this
          exact Nat.not_succ_le_self _ this
        · obtain ⟨p, hp, e⟩ := List.mem_map.mp q
          have := hl p hp
          have e : p.1 = s.heap.objs.size := e
          rw [e] at this
          exact Nat.lt_irrefl _ this
      · obtain ⟨p, hp, rfl⟩ := List.mem_map.mp hb
        obtain ⟨q, hq, rfl⟩ := List.mem_map.mp hd
        have h1 := (hcs p hp).1
        have h2 := hl q hq
        have e : p.2 = q.1 := e
        rw [e] at h1
        exact absurd h2 (Nat.not_lt.mpr (Nat.le_of_succ_le h1))
    · intro b hb
      rw [List.map_append, cellLed_keys] at hb
      rcases List.mem_append.mp hb with hb | hb
      · rw [List.mem_singleton.mp hb]; exact .inl (new _ (Nat.le_refl _))
      · rcases List.mem_append.mp hb with hb | hb
        · obtain ⟨q, hq, rfl⟩ := List.mem_map.mp hb
          exact .inl (new _ (Nat.le_of_succ_le (hcs q hq).1))
        · obtain ⟨p, hp, rfl⟩ := List.mem_map.mp hb; exact .inr (hT p hp).2.2
  have hcn : (((callEnvC fd s.heap.objs.size a).cells).map (·.1)).Nodup := by
    have sub : ∀ (names : List (Str × NameKind)) (k : Nat) (acc : List (Str × Addr)), (names.map (·.1)).Nodup → (acc.map (·.1)).Nodup → (∀ x ∈ acc.map (·.1), x ∉ names.map (·.1)) → ((cellsFrom k names acc).map (·.1)).Nodup := by
      intro names
      induction names with
      | nil => intro k acc _ h2 _; exact h2
      | cons p names ih =>
        obtain ⟨n, kd⟩ := p
        intro k acc h1 h2 h3
        rw [List.map_cons, List.nodup_cons] at h1
        unfold cellsFrom
        split
        · refine ih _ _ h1.2 ?_ fun x hx hxn => ?_
          · rw [List.map_cons, List.nodup_cons]
            exact ⟨fun q => h3 _ q (by rw [List.map_cons]; exact .head _), h2⟩
          · rw [List.map_cons] at hx
            rcases List.mem_cons.mp hx with rfl | hx
            · exact h1.1 hxn
            · exact h3 x hx (by rw [List.map_cons]; exact .tail _ hxn)
        · exact ih _ _ h1.2 h2 fun x hx hxn => h3 x hx (by rw [List.map_cons]; exact .tail _ hxn)
    exact sub _ _ _ (of_decide_eq_true hnn) .nil (fun _ q => nomatch q)
  refine wpAny_bind (bind_params (env := callEnvC fd s.heap.objs.size a) _ (fun _ _ _ => rfl) hk ok.apart hcn binds (fun _ => none) (fun _ => none) _ _ hS (congrFun hloc s.heap.objs.size) fun s' x => wpAny_pure ⟨?_, codeAny_func (k _ _ x hr.deeper)⟩)
  exact x.toZ0.lim
/-- the same, with what the names and the cells hold told -/
theorem enterD {R : Result → Shared → Prop} {a : Addr} {o : Obj} {fd : FuncData} {body : List Stmt} {args : Args} {binds : List (Str × Value)} {T : List Addr} {n : Nat} (m' : Str → Option Value) (led : Addr → List (Addr × Obj))
    {s₀ : Shared} (hr : Rm A (n + 1)) (h₀ : (KF w).In s₀.heap) (h : Z0 w c G Z s) (ho : (KF w).lookup a = some o) (hd : o.data = .func fd) (hcd : codeIn (KF w) fd.code fd.qualname = true) (hb : fd.body = .stmts body) (hbind : ∀ (Q : List (Str × Value) → Shared → Prop) (E : Value → Shared → Prop), Q binds s → wpAny (model PG w) A.in1 (bindArgs fd args) Q E s₀)
    (hT : ∀ p ∈ l, s.heap.get? p.1 = some p.2 ∧ Z p.1 = none ∧ p.1 ∈ T) (hnd : (l.map (·.1)).Nodup) (hTa : ∀ a ∈ T, ∃ o, s.heap.get? a = some o)
    (hm : (fun L : Nat => bindL (callEnvC fd L a).kindOf binds fun _ => none) = fun _ => m') (hl : (fun L : Nat => cellLed (callEnvC fd L a).cells (bindC (callEnvC fd L a).kindOf binds fun _ => none)) = led)
    (k : ∀ L s', S w ⟨c.H, s, T, Z⟩ G Z [((callEnvC fd L a).locals, m')] (led L ++ l) s' → Rm (A.deeper (callEnvC fd L a)) n →
      wpAny (model PG w) (A.deeper (callEnvC fd L a)) (execs body (callEnvC fd L a)) (flowQ R)
        (errQ (model PG w) A (callEnvC fd L a) R) s')
    (hclo : fd.closure = [] := by kernel_rfl)
    (hloc : (fun L : Nat => binds.all fun x => (callEnvC fd L a).kindOf x.1 == some .local || ((callEnvC fd L a).kindOf x.1 == some .cell && ((callEnvC fd L a).cells.lookup x.1).isSome)) = fun _ => true := by kernel_rfl)
    (hnn : decide ((fd.scope.names.map (·.1)).Nodup) = true := by kernel_rfl)
    (hco : fd.scope.isCoroutine = false := by kernel_rfl) (hgen : fd.scope.isGenerator = false := by kernel_rfl) (hk : fd.scope.kind = .function := by kernel_rfl) :
    codeAny (model PG w) A (.call (.ref a) args) R s₀ := by
  refine enterG hr h₀ h ho hd hcd hb hbind hT hnd hTa (fun L s' hS hr' => k L s' ?_ hr') hclo hloc hnn hco hgen hk
  have e1 := congrFun hm L
  have e2 := congrFun hl L
  rw [← e1, ← e2]
  exact hS
/-- the same for a function that turns nothing of the caller's -/
theorem enterN {R : Result → Shared → Prop} {a : Addr} {o : Obj} {fd : FuncData} {body : List Stmt} {args : Args} {binds : List (Str × Value)} {n : Nat} (m' : Str → Option Value) (led : Addr → List (Addr × Obj))
    {s₀ : Shared} (hr : Rm A (n + 1)) (h₀ : (KF w).In s₀.heap) (h : Z0 w c G Z s) (ho : (KF w).lookup a = some o) (hd : o.data = .func fd) (hcd : codeIn (KF w) fd.code fd.qualname = true) (hb : fd.body = .stmts body) (hbind : ∀ (Q : List (Str × Value) → Shared → Prop) (E : Value → Shared → Prop), Q binds s → wpAny (model PG w) A.in1 (bindArgs fd args) Q E s₀)
    (hm : (fun L : Nat => bindL (callEnvC fd L a).kindOf binds fun _ => none) = fun _ => m') (hl : (fun L : Nat => cellLed (callEnvC fd L a).cells (bindC (callEnvC fd L a).kindOf binds fun _ => none)) = led)
    (k : ∀ L s', S w ⟨c.H, s, [], Z⟩ G Z [((callEnvC fd L a).locals, m')] (led L) s' → Rm (A.deeper (callEnvC fd L a)) n →
      wpAny (model PG w) (A.deeper (callEnvC fd L a)) (execs body (callEnvC fd L a)) (flowQ R)
        (errQ (model PG w) A (callEnvC fd L a) R) s')
    (hclo : fd.closure = [] := by kernel_rfl)
    (hloc : (fun L : Nat => binds.all fun x => (callEnvC fd L a).kindOf x.1 == some .local || ((callEnvC fd L a).kindOf x.1 == some .cell && ((callEnvC fd L a).cells.lookup x.1).isSome)) = fun _ => true := by kernel_rfl)
    (hnn : decide ((fd.scope.names.map (·.1)).Nodup) = true := by kernel_rfl)
    (hco : fd.scope.isCoroutine = false := by kernel_rfl) (hgen : fd.scope.isGenerator = false := by kernel_rfl) (hk : fd.scope.kind = .function := by kernel_rfl) :
    codeAny (model PG w) A (.call (.ref a) args) R s₀ :=
  enterD (T := []) (l := []) m' led hr h₀ h ho hd hcd hb hbind (fun _ q => nomatch q) .nil (fun _ q => nomatch q) hm hl (fun L s' hS hr' => k L s' (by rw [List.append_nil] at hS; exact hS) hr') hclo hloc hnn hco hgen hk
theorem bind_pure {fd : FuncData} {args : Args} {binds : List (Str × Value)} (e : bindArgs fd args = pure binds) (Q : List (Str × Value) → Shared → Prop) (E : Value → Shared → Prop) (h : Q binds s) : wpAny (model PG w) A (bindArgs fd args) Q E s := by
  rw [e]; exact wpAny_pure h
/-- a method of a Headers object -/
theorem callM {o : PySem.Expr} {args : List PySem.Expr} {kws : List Keyword} {name : Str} {apos pos : Pos} {f : Addr} {Q : Value → Shared → Prop}
    (hq : wpAny (model PG w) A (eval o env) (fun ov s₁ => ∃ x dx hl tk, ov = .ref x ∧ (KF w).In s₁.heap ∧ s₁.heap.get? x = some (hdI dx) ∧ s₁.heap.get? dx = some (hdD w tk hl) ∧
      wpAny (model PG w) A (callWith pos (.ref f) [.ref x] (backTo pos (starEach args env)) (backToKw pos (keywordEach kws env))) Q E s₁) E s)
    (hf : W.findIn (KF w) (.ref 182) name = some (some (.ref f)) := by kernel_rfl) (ht : W.typeIn (KF w) (.ref f) = some (.type "function") := by kernel_rfl)
    (hs : (fun tk hl => W.shadowIn (some (hdD w tk hl)) name) = fun _ _ => some false := by kernel_rfl)
    (hbase : attributeBase o name env (eval o env) = eval o env := by kernel_rfl)
    (hfew : methodCallForm (args.length + kws.length) (backTo pos (starEach args env)) (backToKw pos (keywordEach kws env)) = true := by kernel_rfl)
    (hline : (apos.endLine == pos.line) = true := by kernel_rfl) :
    wpAny (model PG w) A (eval (.Call (.Attribute o name apos) args kws pos) env) Q E s := by
  have hga : W.findIn (KF w) (.ref 182) "__getattribute__" = some (some (.builtin "object.__getattribute__")) := by kernel_rfl
  have hgb : W.findIn (KF w) (.ref 182) "__getattr__" = some none := by kernel_rfl
  rw [arm_eval_Call, hbase]
  refine wpAny_bind (wpAny_mono hq (fun ov s₁ h₁ => ?_) fun _ _ x => x)
  obtain ⟨x, dx, hl, tk, rfl, hK, hx, hd, hc⟩ := h₁
  refine wpAny_bind (wpAny_standAt ?_)
  unfold methodCall calleeOf methodCallPos
  simp only [hfew, hline, if_true, Bool.not_true, Bool.or_true]
  refine wpAny_bind (wpAny_holding (W.method_fn (K := KF w) hK (hdAt hx hd) hga hgb hf ht (congrFun (congrFun hs tk) hl) ?_))
  exact wpAny_bind (wpAny_pure hc)
/-- plain arguments after the object -/
theorem argsM {f x : Addr} {e : PySem.Expr} {rest : List PySem.Expr} {pos : Pos} {Q : Value → Shared → Prop} (hk : keepIn (KF w) (.ref f) = true) (h : wpAny (model PG w) A (spliced (backTo pos (starEach (e :: rest) env))) (fun vs s₂ => (KF w).In s₂.heap ∧ wpAny (model PG w) A (call (.ref f) (.ref x :: vs)) Q E s₂) E s)
    (he : starEach (e :: rest) env = (false, eval e env) :: starEach rest env := by kernel_rfl) (hp : (backTo pos (starEach rest env)).any (·.1) = false := by kernel_rfl) :
    wpAny (model PG w) A (callWith pos (.ref f) [.ref x] (backTo pos (starEach (e :: rest) env)) (backToKw pos (keywordEach [] env))) Q E s := by
  show wpAny (model PG w) A (callWith pos (.ref f) [.ref x] (backTo pos (starEach (e :: rest) env)) []) Q E s
  rw [he] at h ⊢
  exact callWith_of (by show ((false || (backTo pos (starEach rest env)).any (·.1)) || false) = false; rw [hp]; rfl) (keeps_K hk) (Calls.evalArgs_plain h)
theorem argsM0 {f x : Addr} {pos : Pos} {Q : Value → Shared → Prop} (hk : keepIn (KF w) (.ref f) = true) (h : (KF w).In s.heap ∧ wpAny (model PG w) A (call (.ref f) [.ref x]) Q E s) :
    wpAny (model PG w) A (callWith pos (.ref f) [.ref x] (backTo pos (starEach [] env)) (backToKw pos (keywordEach [] env))) Q E s :=
  callWith_of (by rfl) (keeps_K hk) (wpAny_pure h)
/-- one plain argument and one by its name -/
theorem argsMK {f x : Addr} {e v : PySem.Expr} {k : Str} {pos p : Pos} {Q : Value → Shared → Prop} (hk : keepIn (KF w) (.ref f) = true)
    (h : wpAny (model PG w) A (eval e env) (fun a s₁ => wpAny (model PG w) A (eval v env) (fun b s₂ => (KF w).In s₂.heap ∧ wpAny (model PG w) A (call (.ref f) [.ref x, a] [(k, b)]) Q E s₂) E s₁) E s)
    (he : starEach [e] env = (false, eval e env) :: starEach [] env := by kernel_rfl) (hall : (backToKw pos (keywordEach [⟨some k, v, p⟩] env)).all (·.1.isSome) = true := by kernel_rfl)
    (hnm : (backToKw pos (keywordEach [⟨some k, v, p⟩] env)).filterMap (·.1) = [k] := by kernel_rfl)
    (hp : ((backTo pos (starEach [e] env)).any (·.1) || (backToKw pos (keywordEach [⟨some k, v, p⟩] env)).any (·.1.isNone)) = false := by kernel_rfl) :
    wpAny (model PG w) A (callWith pos (.ref f) [.ref x] (backTo pos (starEach [e] env)) (backToKw pos (keywordEach [⟨some k, v, p⟩] env))) Q E s := by
  refine callWith_of hp (keeps_K hk) (evalArgs_kw2 hall ?_ he)
  rw [hnm]
  rw [he]
  refine Calls.spliced_cons (wpAny_mono h (fun a s₁ h₁ => Calls.spliced_nil (kwAll_cons (wpAny_mono h₁ (fun b s₂ h₂ => kwAll_nil h₂) fun _ _ x => x))) fun _ _ x => x)
end
end Mine
end
noncomputable section
open PySem PySem.W PyProof.Rows PySem.Calls PySem.Spec
open PySem.Builtin PySem.Builtin.Str PySem.StrLaws
set_option Elab.async false
set_option maxRecDepth 100000
set_option maxHeartbeats 4000000
namespace Mine
/-! ### facts of re.Pattern -/
theorem pa_re : PlainAttrs "re.Pattern" :=
  ⟨⟨"object.__getattribute__", by rw [typeLookup_type, builtinLookup_eq_fast]; kernel_rfl, by decide +kernel⟩, by rw [typeLookup_type, builtinLookup_eq_fast]; kernel_rfl⟩
theorem slot_re_search : Slot "re.Pattern" "search" "re.Pattern.search" :=
  .of (owner := "re.Pattern") (n := "search") (by rw [typeLookup_type, builtinLookup_eq_fast]; kernel_rfl) (by decide +kernel) (by decide +kernel) (by decide +kernel)
    (by first | exact .inl (by decide +kernel) | exact .inr (by decide +kernel)) (by rw [isSubtype_type]; kernel_rfl)
theorem type_re_search : typeOf (.builtin "re.Pattern.search") = pure (.type "method_descriptor") := by show builtinType _ = _; rw [builtinType_eq_fast]; kernel_rfl
theorem entry_re_search : entryFor table "re.Pattern.search" = some Builtin.«re.Pattern.search» := entryFor_of_tree (by kernel_rfl)
theorem args_re_search (a b : Value) : argsOk "re.Pattern.search" ⟨[a, b], []⟩ := by unfold argsOk; kernel_rfl
end Mine
end
noncomputable section
open PySem PySem.W PyProof.Rows PySem.Calls PySem.Spec
open PySem.Builtin PySem.Builtin.Str PySem.StrLaws
set_option Elab.async false
set_option maxRecDepth 100000
set_option linter.unusedVariables false
set_option maxHeartbeats 4000000
namespace Mine
local macro_rules | `(tactic| walk_at "lk") => `(tactic| first | with_reducible exact put | with_reducible assumption | ((with_reducible refine' got ?h9 ?n9); (case n9 => decide); (case h9 => walk_at "lk")) | exact rfl)
/-- the pattern at a finds nothing in x -/
noncomputable def Finds0 (w : World) (a : Addr) (x : Str) : Prop := ∀ t, W.peek (KF w) ⟨PG, w.params⟩ (Builtin.«re.Pattern.search» ⟨[.ref a, .str x t], []⟩) = some (.done (.ret .none))
noncomputable def reAt (b : Bool) : Addr := if b then 48 else 53
section
variable {w : World} {c : Ctx0} {G : Array GenState} {Z : Zone} {l : List (Addr × Obj)} {s : Shared} {A : Around} {E : Value → Shared → Prop} {Q : Value → Shared → Prop}
noncomputable abbrev cvEnv (w : World) (L : Addr) : Env := callEnvC (fdAt w.params 83) L 83
/-- a builtin type's method on an object -/
theorem callO {env : Env} {pos : Pos} {o e : PySem.Expr} {name : Str} {apos : Pos} {T id : String} (pa : PlainAttrs T) (slot : Slot T name id) (hty : typeOf (.builtin id) = pure (.type "method_descriptor"))
    (h : wpAny (model PG w) A (eval o env) (fun ov s₁ => s₁.TypeIs ov T ∧ (∀ a, ov = .ref a → ∃ ob, s₁.heap.get? a = some ob ∧ ob.dict = none) ∧ wpAny (model PG w) A (eval e env) (fun v s₂ => wpAny (model PG w) A (call (.builtin id) [ov, v]) Q E s₂) E s₁) E s)
    (hbase : attributeBase o name env (eval o env) = eval o env := by kernel_rfl)
    (hs : starEach [e] env = [(false, eval e env)] := by kernel_rfl) (hline : (apos.endLine == pos.line) = true := by kernel_rfl) :
    wpAny (model PG w) A (eval (.Call (.Attribute o name apos) [e] [] pos) env) Q E s := by
  refine Call_method1 hbase hs hline (wpAny_mono h (fun ov s₁ h₁ => ?_) fun _ _ x => x)
  obtain ⟨hT, hd, h₁⟩ := h₁
  exact ⟨T, id, pa, slot, hty, hT, hd, Calls.callWith_builtin rfl (Calls.evalArgs_plain (Calls.spliced_cons (wpAny_mono h₁ (fun _ _ q => Calls.spliced_nil q) fun _ _ x => x)))⟩
theorem is_str {Q : Value → Shared → Prop} (h : Q (.bool true) s) : wpAny (model PG w) A (compareOp .Is (.type "str") (.type "str")) Q E s :=
  wpAny_of_eq (a := .bool true) (by kernel_rfl) h
/-- _convert_string_type of a text in which nothing is found -/
theorem convert_ok {x : Addr} {v : Str} {t : Tok} {b : Bool} (hr : Rm A 20) (h : Z0 w c G Z s) (hv : Finds0 w (reAt b) v)
    (k : ∀ s', Z0 w ⟨c.H, s, [], Z⟩ G Z s' → Q (.str v t) s') : wpAny (model PG w) A (call (.ref 83) [.ref x, .str v t] [(Str.ofString "name", .bool b)]) Q E s := by
  have h1 : (KF w).lookup 83 = some (obAt w.params 83) := by kernel_rfl
  have h2 : (obAt w.params 83).data = .func (fdAt w.params 83) := by kernel_rfl
  have h3 : codeIn (KF w) (fdAt w.params 83).code (fdAt w.params 83).qualname = true := by kernel_rfl
  have h4 : (fdAt w.params 83).body = .stmts (bodyAt w.params 83) := by kernel_rfl
  have h5 : bindArgs (fdAt w.params 83) ⟨[.ref x, .str v t], [(Str.ofString "name", .bool b)]⟩ = pure [(Str.ofString "self", .ref x), (Str.ofString "value", .str v t), (Str.ofString "name", .bool b)] := by kernel_rfl
  refine wpAny_call ?_
  with_reducible refine enterN (fun y => if y = Str.ofString "name" then some (.bool b) else (fun y => if y = Str.ofString "value" then some (.str v t) else (fun y => if y = Str.ofString "self" then some (.ref x) else none) y) y) (fun _ => []) hr h.kin h h1 h2 h3 h4 (bind_pure h5) (by kernel_rfl) (by kernel_rfl) ?_
  intro L s₁ hs hr'
  refine wpAny_execs_cons (wpAny_If (wpAny_isTrue_Compare1 ?_))
  with_reducible refine callT (T := "type") ?_
  refine is_ldb hs.toZ0 (by kernel_rfl) (by kernel_rfl) (args_one (ld hs (v := .str v t) (by walk_at "lk") ?_))
  refine call_type_of (typeIs_str _ _ _) (by decide) ?_
  refine ldb hs.toZ0 (v := .type "str") (by kernel_rfl) (by kernel_rfl) (is_str (wpAny_truthy_bool ?_))
  refine wpAny_execs_cons (wpAny_Assign_Name ?_)
  refine wpAny_mono (Q := fun u s' => u = .ref (reAt b) ∧ S w ⟨c.H, s, [], Z⟩ G Z [((cvEnv w L).locals, fun y => if y = Str.ofString "name" then some (.bool b) else (fun y => if y = Str.ofString "value" then some (.str v t) else (fun y => if y = Str.ofString "self" then some (.ref x) else none) y) y)] [] s') ?_ (fun u s2 h2 => ?_) fun _ _ x => x
  · refine wpAny_IfExp (isTrue_plain (ld hs (v := .bool b) (by walk_at "lk") (wpAny_truthy_bool ?_)))
    cases b with
    | true => exact ldg hs.toZ0 (v := .ref 48) (by kernel_rfl) ⟨rfl, hs⟩
    | false => exact ldg hs.toZ0 (v := .ref 53) (by kernel_rfl) ⟨rfl, hs⟩
  obtain ⟨rfl, hS2⟩ := h2
  refine st hS2 fun s3 hS3 => ?_
  refine wpAny_execs_cons (wpAny_If (isTrue_plain ?_))
  with_reducible refine callO pa_re slot_re_search type_re_search ?_
  refine ld hS3 (v := .ref (reAt b)) (by walk_at "lk") ?_
  have hob : ∃ ob, s3.heap.get? (reAt b) = some ob ∧ ob.cls = .type "re.Pattern" ∧ ob.dict = none := by
    cases b with
    | true => exact ⟨_, hS3.kin 48 (obAt w.params 48) (by kernel_rfl), by kernel_rfl, by kernel_rfl⟩
    | false => exact ⟨_, hS3.kin 53 (obAt w.params 53) (by kernel_rfl), by kernel_rfl, by kernel_rfl⟩
  obtain ⟨ob, hob, hcls, hdict⟩ := hob
  have hT : s3.TypeIs (.ref (reAt b)) "re.Pattern" := ⟨ob, hob, hcls⟩
  refine ⟨hT, fun a e => ⟨ob, by cases e; exact hob, hdict⟩, ld hS3 (v := .str v t) (by walk_at "lk") ?_⟩
  refine wpAny_call_entry slot_re_search hT entry_re_search ?_ (args_re_search _ _)
  refine (W.Looks.of_peek hS3.kin (hv t)).here ⟨_, rfl, truthy_none ?_⟩
  refine wpAny_execs_nil ?_
  refine wpAny_execs_cons (wpAny_Return_some (ld hS3 (v := .str v t) (by walk_at "lk") ?_))
  exact k _ hS3.toZ0
end
section
variable {w : World} {c : Ctx0} {G : Array GenState} {Z : Zone} {ns : List (Addr × (Str → Option Value))} {l : List (Addr × Obj)} {s : Shared} {A : Around} {E : Value → Shared → Prop} {env : Env}
theorem bind_paramsI (f : Str × Value → PUnit → Sem (ForInStep PUnit)) (hf : ∀ n v u, f (n, v) u = (do storeName env n v; pure (.yield ⟨⟩))) (hk : env.scope.kind = .function) (hp : env.cells.Pairwise fun x y => x.2 ≠ y.2) (hn : (env.cells.map (·.1)).Nodup) :
    ∀ (binds : List (Str × Value)) (m cm : Str → Option Value) (s : Shared) (Q : PUnit → Shared → Prop), S w c G Z ((env.locals, m) :: ns) (cellLed env.cells cm ++ l) s →
      (binds.all fun x => env.kindOf x.1 == some .local || (env.kindOf x.1 == some .cell && (env.cells.lookup x.1).isSome)) = true →
      (∀ s', S w c G Z ((env.locals, bindL env.kindOf binds m) :: ns) (cellLed env.cells (bindC env.kindOf binds cm) ++ l) s' → Q ⟨⟩ s') → wpAny (model PG w) A (forIn binds ⟨⟩ f) Q E s
  | [], m, cm, s, Q, x, _, h => by rw [List.forIn_nil]; exact wpAny_pure (h s x)
  | (n, v) :: r, m, cm, s, Q, x, hkind, h => by
    rw [List.forIn_cons, hf]
    rw [List.all_cons, Bool.and_eq_true] at hkind
    obtain ⟨hh, hr⟩ := hkind
    simp only [Bool.or_eq_true, Bool.and_eq_true, beq_iff_eq] at hh
    rcases hh with hl | ⟨hl, hc⟩
    · refine wpAny_bind (wpAny_bind (st x (fun s' x' => wpAny_pure (bind_paramsI f hf hk hp hn r _ _ s' Q x' hr fun s'' x'' => h s'' ?_)) hl (by rw [hk]; rfl)))
      unfold bindL bindC; rw [if_pos hl, if_pos hl]; exact x''
    · obtain ⟨a, hc⟩ := Option.isSome_iff_exists.mp hc
      have hnl : ¬ env.kindOf n = some .local := by rw [hl]; decide
      refine wpAny_bind (wpAny_bind (stc x (cellLed_upd env.cells cm l v hp hn hc) (fun s' x' => wpAny_pure (bind_paramsI f hf hk hp hn r _ _ s' Q x' hr fun s'' x'' => h s'' ?_)) hc hk hl))
      unfold bindL bindC; rw [if_neg hnl, if_neg hnl]; exact x''
theorem cellNames_nd (names : List (Str × NameKind)) (hnn : (names.map (·.1)).Nodup) (k : Nat) : ((cellsFrom k names []).map (·.1)).Nodup := by
  have sub : ∀ (names : List (Str × NameKind)) (k : Nat) (acc : List (Str × Addr)), (names.map (·.1)).Nodup → (acc.map (·.1)).Nodup → (∀ x ∈ acc.map (·.1), x ∉ names.map (·.1)) → ((cellsFrom k names acc).map (·.1)).Nodup := by
    intro names
    induction names with
    | nil => intro k acc _ h2 _; exact h2
    | cons p names ih =>
      obtain ⟨n, kd⟩ := p
      intro k acc h1 h2 h3
      rw [List.map_cons, List.nodup_cons] at h1
      unfold cellsFrom
      split
      · refine ih _ _ h1.2 ?_ fun x hx hxn => ?_
        · rw [List.map_cons, List.nodup_cons]
          exact ⟨fun q => h3 _ q (by rw [List.map_cons]; exact .head _), h2⟩
        · rw [List.map_cons] at hx
          rcases List.mem_cons.mp hx with rfl | hx
          · exact h1.1 hxn
          · exact h3 x hx (by rw [List.map_cons]; exact .tail _ hxn)
      · exact ih _ _ h1.2 h2 fun x hx hxn => h3 x hx (by rw [List.map_cons]; exact .tail _ hxn)
  exact sub _ _ _ hnn .nil (fun _ q => nomatch q)
/-- a def is entered within the caller's own ledger -/
theorem enterI {R : Result → Shared → Prop} {a : Addr} {o : Obj} {fd : FuncData} {body : List Stmt} {args : Args} {binds : List (Str × Value)} {n : Nat} (m' : Str → Option Value) (led : Addr → List (Addr × Obj))
    {s₀ : Shared} (hr : Rm A (n + 1)) (h₀ : (KF w).In s₀.heap) (h : S w c G Z ns l s) (ho : (KF w).lookup a = some o) (hd : o.data = .func fd) (hcd : codeIn (KF w) fd.code fd.qualname = true) (hb : fd.body = .stmts body) (hbind : ∀ (Q : List (Str × Value) → Shared → Prop) (E : Value → Shared → Prop), Q binds s → wpAny (model PG w) A.in1 (bindArgs fd args) Q E s₀)
    (hm : (fun L : Nat => bindL (callEnvC fd L a).kindOf binds fun _ => none) = fun _ => m') (hl : (fun L : Nat => cellLed (callEnvC fd L a).cells (bindC (callEnvC fd L a).kindOf binds fun _ => none)) = led)
    (k : ∀ L s', S w c G Z (((callEnvC fd L a).locals, m') :: ns) (led L ++ l) s' → c.sc.heap.get? L = none → Rm (A.deeper (callEnvC fd L a)) n →
      wpAny (model PG w) (A.deeper (callEnvC fd L a)) (execs body (callEnvC fd L a)) (flowQ R)
        (errQ (model PG w) A (callEnvC fd L a) R) s')
    (hclo : fd.closure = [] := by kernel_rfl)
    (hloc : (fun L : Nat => binds.all fun x => (callEnvC fd L a).kindOf x.1 == some .local || ((callEnvC fd L a).kindOf x.1 == some .cell && ((callEnvC fd L a).cells.lookup x.1).isSome)) = fun _ => true := by kernel_rfl)
    (hnn : decide ((fd.scope.names.map (·.1)).Nodup) = true := by kernel_rfl)
    (hco : fd.scope.isCoroutine = false := by kernel_rfl) (hgen : fd.scope.isGenerator = false := by kernel_rfl) (hk : fd.scope.kind = .function := by kernel_rfl) :
    codeAny (model PG w) A (.call (.ref a) args) R s₀ := by
  refine codeAny_call_function hr.lt (h₀ _ _ ho) hd hco hgen hb (codeRec_of h₀ hcd) ?_
  rw [hclo]
  refine hbind _ _ ?_
  simp only [newFunctionEnv, Option.isSome_none, Bool.false_eq_true, if_false]
  refine wpAny_bind (wpAny_alloc ?_)
  refine wpAny_bind (wpAny_layCells _ (fun name kind cells => by cases hkc : kind == NameKind.cell <;> simp) _ _ _ _ ?_)
  have ok := cellsFrom_ok fd.scope.names (s.heap.push { cls := .type "frame", data := .dict #[] }) (s.heap.objs.size + 1) [] ⟨fun _ _ hm => (nomatch hm), List.Pairwise.nil⟩ (by rw [Heap.size_push]; exact Nat.le_refl _)
  have hat := pushCells_at fd.scope.names (s.heap.push { cls := .type "frame", data := .dict #[] }) []
  rw [Heap.size_push] at ok hat
  rw [show ({ s with heap := s.heap.push { cls := .type "frame", data := .dict #[] } } : Shared).heap.objs.size = s.heap.objs.size + 1 from Heap.size_push ..]
  generalize hH : pushCells (s.heap.push { cls := .type "frame", data := .dict #[] }) fd.scope.names = H' at ok hat
  have hkeep : ∀ b o, s.heap.get? b = some o → H'.get? b = some o := fun b o e => by rw [← hH]; exact pushCells_keeps _ _ b o (Heap.get?_push_of_some _ e)
  have hns : H'.Ns s.heap.objs.size (fun _ => none) := by rw [← hH]; exact (Heap.Ns.new s.heap (.type "frame")).keeps (pushCells_keeps _ _)
  have new : ∀ b, s.heap.objs.size ≤ b → s.heap.get? b = none := fun b hb => by
    cases e : s.heap.get? b with
    | none => rfl
    | some o' => exact absurd (Heap.lt_size e) (Nat.not_lt.mpr hb)
  have newZ : ∀ b, s.heap.objs.size ≤ b → Z b = none := fun b hb => by
    cases e : Z b with
    | none => rfl
    | some o' => have := h.z _ _ e; rw [new b hb] at this; cases this
  have newC : ∀ b, s.heap.objs.size ≤ b → c.sc.heap.get? b = none ∨ b ∈ c.T := fun b hb => by
    by_cases hT : b ∈ c.T
    · exact .inr hT
    · refine .inl ?_
      cases e : c.sc.heap.get? b with
      | none => rfl
      | some o' => have := h.keep _ _ hT e; rw [new b hb] at this; cases this
  have hcs : ∀ p ∈ cellsFrom (s.heap.objs.size + 1) fd.scope.names [], s.heap.objs.size + 1 ≤ p.2 ∧ H'.get? p.2 = some (cellO none) := fun p hp => by
    rcases hat p.1 p.2 hp with q | q
    · cases q
    · exact q
  have h1 := h.heapK hkeep
  have hlt := h.lt
  have hS : S w c G Z (((callEnvC fd s.heap.objs.size a).locals, fun _ => none) :: ns) (cellLed (callEnvC fd s.heap.objs.size a).cells (fun _ => none) ++ l) { s with heap := H' } := by
    have cellsNe : ∀ p ∈ (callEnvC fd s.heap.objs.size a).cells, ∀ b ∈ ns.map (·.1) ++ l.map (·.1), b ≠ p.2 := fun p hp b hb e => by
      have h2 := (hcs p hp).1
      have h3 := hlt b hb
      rw [e] at h3
      exact absurd h3 (Nat.not_lt.mpr (Nat.le_of_succ_le h2))
    refine ⟨h1.toZ0, ?_, ?_, ?_, ?_, ?_⟩
    · intro p hp
      rcases List.mem_cons.mp hp with rfl | hp
      · exact hns
      · exact h1.nss p hp
    · intro p hp
      rcases List.mem_append.mp hp with hp | hp
      · obtain ⟨q, hq, rfl⟩ := List.mem_map.mp hp
        exact (hcs q hq).2
      · exact h1.own p hp
    · intro b hb
      rw [List.map_append, cellLed_keys, List.map_cons, List.cons_append] at hb
      rcases List.mem_cons.mp hb with rfl | hb
      · exact newZ _ (Nat.le_refl _)
      · rcases List.mem_append.mp hb with hb | hb
        · exact h.zo b (List.mem_append_left _ hb)
        · rcases List.mem_append.mp hb with hb | hb
          · obtain ⟨q, hq, rfl⟩ := List.mem_map.mp hb
            exact newZ _ (Nat.le_of_succ_le (hcs q hq).1)
          · exact h.zo b (List.mem_append_right _ hb)
    · have hnd := List.nodup_append.mp h.nd
      rw [List.map_append, cellLed_keys, List.map_cons, List.cons_append]
      refine List.nodup_cons.mpr ⟨fun q => ?_, List.nodup_append.mpr ⟨hnd.1, List.nodup_append.mpr ⟨List.pairwise_map.mpr ok.apart, hnd.2.1, fun b hb d hd e => ?_⟩, fun b hb d hd e => ?_⟩⟩
      · rcases List.mem_append.mp q with q | q
        · exact absurd (hlt _ (List.mem_append_left _ q)) (Nat.lt_irrefl _)
        · rcases List.mem_append.mp q with q | q
          · obtain ⟨p, hp, e⟩ := List.mem_map.mp q
            have := (hcs p hp).1
            have e : p.2 = s.heap.objs.size := e
            rw [e] at this
            exact Nat.not_succ_le_self _ this
          · exact absurd (hlt _ (List.mem_append_right _ q)) (Nat.lt_irrefl _)
      · obtain ⟨p, hp, rfl⟩ := List.mem_map.mp hb
        exact cellsNe p hp d (List.mem_append_right _ hd) e.symm
      · rcases List.mem_append.mp hd with hd | hd
        · obtain ⟨p, hp, rfl⟩ := List.mem_map.mp hd
          exact cellsNe p hp b (List.mem_append_left _ hb) e
        · exact hnd.2.2 b hb d hd e
    · intro b hb
      rw [List.map_append, cellLed_keys, List.map_cons, List.cons_append] at hb
      rcases List.mem_cons.mp hb with rfl | hb
      · exact newC _ (Nat.le_refl _)
      · rcases List.mem_append.mp hb with hb | hb
        · exact h.lo b (List.mem_append_left _ hb)
        · rcases List.mem_append.mp hb with hb | hb
          · obtain ⟨q, hq, rfl⟩ := List.mem_map.mp hb
            exact newC _ (Nat.le_of_succ_le (hcs q hq).1)
          · exact h.lo b (List.mem_append_right _ hb)
  refine wpAny_bind (bind_paramsI (env := callEnvC fd s.heap.objs.size a) _ (fun _ _ _ => rfl) hk ok.apart (cellNames_nd _ (of_decide_eq_true hnn) _) binds (fun _ => none) (fun _ => none) _ _ hS (congrFun hloc s.heap.objs.size) fun s' x => wpAny_pure ⟨x.toZ0.lim, codeAny_func (k _ _ ?_ h.new hr.deeper)⟩)
  have e1 := congrFun hm s.heap.objs.size
  have e2 := congrFun hl s.heap.objs.size
  rw [← e1, ← e2]
  exact x
end
/-- the entries of a table: tuples of two texts -/
inductive EntsAt (Z : Zone) : List Value → List (Str × Str) → Prop
  | nil : EntsAt Z [] []
  | cons {T : Addr} {k v : Str} {tk tv : Tok} {vs es} : Z T = some (tupObj [.str k tk, .str v tv]) → EntsAt Z vs es → EntsAt Z (.ref T :: vs) ((k, v) :: es)
theorem EntsAt.mono {Z Z' : Zone} (h : Z.le Z') {vs : List Value} {es : List (Str × Str)} (x : EntsAt Z vs es) : EntsAt Z' vs es := by
  induction x with
  | nil => exact .nil
  | cons e _ ih => exact .cons (h _ _ e) ih
theorem EntsAt.at {Z : Zone} {vs : List Value} {es : List (Str × Str)} (x : EntsAt Z vs es) : ∀ {i : Nat} {v : Value}, vs[i]? = some v → ∃ T k u tk tu, v = .ref T ∧ es[i]? = some (k, u) ∧ Z T = some (tupObj [.str k tk, .str u tu]) := by
  induction x with
  | nil => intro i v h; simp at h
  | cons e _ ih =>
    intro i v h
    cases i with
    | zero => simp at h; subst h; exact ⟨_, _, _, _, _, rfl, rfl, e⟩
    | succ i => simp at h; exact ih h
theorem EntsAt.length {Z : Zone} {vs : List Value} {es : List (Str × Str)} (x : EntsAt Z vs es) : vs.length = es.length := by
  induction x with
  | nil => rfl
  | cons _ _ ih => simp [ih]
theorem EntsAt.snoc {Z : Zone} {vs : List Value} {es : List (Str × Str)} (x : EntsAt Z vs es) {T : Addr} {k v : Str} {tk tv : Tok} (e : Z T = some (tupObj [.str k tk, .str v tv])) : EntsAt Z (vs ++ [.ref T]) (es ++ [(k, v)]) := by
  induction x with
  | nil => exact .cons e .nil
  | cons e' _ ih => exact .cons e' ih
section
variable {w : World} {c : Ctx0} {G : Array GenState} {Z : Zone} {ns : List (Addr × (Str → Option Value))} {l : List (Addr × Obj)} {s : Shared} {A : Around} {E : Value → Shared → Prop}
/-- self._convert_string_type(value, name=..) as a step -/
theorem conv_call {env : Env} {m : Str → Option Value} {n vx : Str} {np vp kp apos pos p : Pos} {kk : Nat} {b : Bool} {x dx hl : Addr} {tk : Tok} {v : Str} {t : Tok} {Q : Value → Shared → Prop} (hr : Rm A 25)
    (h : S w c G Z ((env.locals, m) :: ns) l s) (hTo : ∀ a ∈ c.T, a ∈ env.locals :: (ns.map (·.1) ++ l.map (·.1))) (hn : m n = some (.ref x)) (hvv : m vx = some (.str v t)) (hx : (x, hdI dx) ∈ l) (hd : (dx, hdD w tk hl) ∈ l) (hf : Finds0 w (reAt b) v)
    (k : ∀ s', S w c G Z ((env.locals, m) :: ns) l s' → Q (.str v t) s')
    (hk : env.scope.kind = .function := by kernel_rfl) (hl1 : env.kindOf n = some .local := by kernel_rfl) (hl2 : env.kindOf vx = some .local := by kernel_rfl) (hd1 : (n == ("__debug__" : Str)) = false := by decide) (hd2 : (vx == ("__debug__" : Str)) = false := by decide)
    (hbase : attributeBase (.Name n np) (Str.ofString "_convert_string_type") env (eval (.Name n np) env) = eval (.Name n np) env := by kernel_rfl)
    (hfew : methodCallForm (([PySem.Expr.Name vx vp] : List PySem.Expr).length + ([⟨some (Str.ofString "name"), .Constant (.bool b) kk kp, p⟩] : List Keyword).length) (backTo pos (starEach [.Name vx vp] env)) (backToKw pos (keywordEach [⟨some (Str.ofString "name"), .Constant (.bool b) kk kp, p⟩] env)) = true := by kernel_rfl)
    (hline : (apos.endLine == pos.line) = true := by kernel_rfl)
    (he : starEach [.Name vx vp] env = (false, eval (.Name vx vp) env) :: starEach [] env := by kernel_rfl) (hall : (backToKw pos (keywordEach [⟨some (Str.ofString "name"), .Constant (.bool b) kk kp, p⟩] env)).all (·.1.isSome) = true := by kernel_rfl)
    (hnm : (backToKw pos (keywordEach [⟨some (Str.ofString "name"), .Constant (.bool b) kk kp, p⟩] env)).filterMap (·.1) = [Str.ofString "name"] := by kernel_rfl)
    (hp : ((backTo pos (starEach [.Name vx vp] env)).any (·.1) || (backToKw pos (keywordEach [⟨some (Str.ofString "name"), .Constant (.bool b) kk kp, p⟩] env)).any (·.1.isNone)) = false := by kernel_rfl) :
    wpAny (model PG w) A (eval (.Call (.Attribute (.Name n np) (Str.ofString "_convert_string_type") apos) [.Name vx vp] [⟨some (Str.ofString "name"), .Constant (.bool b) kk kp, p⟩] pos) env) Q E s := by
  with_reducible refine callM (f := 83) ?_ (by kernel_rfl) (by kernel_rfl) (by kernel_rfl) hbase hfew hline
  refine ld h hn ⟨x, dx, hl, tk, rfl, h.kin, h.own' hx, h.own' hd, ?_⟩ hk hl1 hd1
  with_reducible refine argsMK (by kernel_rfl) ?_ he hall hnm hp
  refine ld h hvv ?_ hk hl2 hd2
  refine con_bool ⟨h.kin, ?_⟩
  exact convert_ok (hr.le (by omega)) h.toZ0 hf fun s' hz => k s' (h.back hz hTo)
end
section
variable {w : World} {c : Ctx0} {G : Array GenState} {Z : Zone} {ns : List (Addr × (Str → Option Value))} {l : List (Addr × Obj)} {s : Shared} {A : Around} {E : Value → Shared → Prop}
noncomputable abbrev Around.tc (A : Around) (rest : List Value) : Around := A.under (.builtin "type.__call__" ⟨.ref 182 :: rest, []⟩)
theorem Rm.tc {A : Around} {n : Nat} (h : Rm A (n + 1)) (rest : List Value) : Rm (Around.tc A rest) n := by
  have hd : (Around.tc A rest).depth = A.depth + 1 := rfl
  have hu : (Around.tc A rest).units ≤ A.units + 4 := by
    show A.units + _ ≤ _
    exact Nat.add_le_add_left (show Code.cUnits _ ≤ 4 from Nat.le_of_ble_eq_true (by kernel_rfl)) _
  refine ⟨?_, ?_, h.handled⟩
  · have := h.depth; omega
  · have := h.units; omega
/-- Headers(..): the object is made, __init__ is called -/
theorem make_hdr {rest : List Value} {Q : Value → Shared → Prop} (h : S w c G Z ns l s)
    (k : ∀ x dx s', c.sc.heap.get? x = none → c.sc.heap.get? dx = none → S w c G Z ns ((x, hdI dx) :: (dx, W.emptyDict) :: l) s' → codeAny (model PG w) (Around.tc A rest) (.call (.ref 76) ⟨.ref x :: rest, []⟩) (W.InitBack x fun r s' => match r with | .ok (.ret v) => Q v s' | .ok _ => False | .error e => E e s') s') :
    wpAny (model PG w) A (call (.ref 182) rest) Q E s := by
  have hS1 := h.push W.emptyDict rfl
  have hS2 := hS1.push (hdI s.heap.objs.size) rfl
  have n1 := h.new
  have n2 := hS1.new
  rw [show ({ s with heap := s.heap.push W.emptyDict } : Shared).heap.objs.size = s.heap.objs.size + 1 from Heap.size_push ..] at hS2 n2
  refine wpAny_call ?_
  obtain ⟨hh, g, d, t, os⟩ := s
  have hk := h.kin
  refine W.make_core (C := 182) (W.makes_of hk (by kernel_rfl)) (W.looks_findIn hk (r := some (.ref 76)) (by kernel_rfl)) (fun self => W.bind_fn hk self (by kernel_rfl)) (.inl rfl) ?_
  exact k _ _ _ n2 n1 hS2
end
section
variable {w : World} {c : Ctx0} {G : Array GenState} {Z : Zone} {ns : List (Addr × (Str → Option Value))} {l : List (Addr × Obj)} {s : Shared} {A : Around}
noncomputable abbrev inEnv (w : World) (L : Addr) : Env := callEnvC (fdAt w.params 76) L 76
noncomputable def inTail (P : Params) : List Stmt := match bodyAt P 76 with
  | _ :: r => r
  | _ => []
theorem isnot_list {Q : Value → Shared → Prop} {E : Value → Shared → Prop} (h : Q (.bool false) s) : wpAny (model PG w) A (compareOp .IsNot (.type "list") (.type "list")) Q E s :=
  wpAny_of_eq (a := .bool false) (by kernel_rfl) h
theorem init_tail {L x dx hl : Addr} {m : Str → Option Value} {l' : Tok → List (Addr × Obj)} {vs : List Value} {n : Nat} {es : List (Str × Str)} {Q : Flow → Shared → Prop} {E : Value → Shared → Prop} {body : List Stmt} (hbd : body = inTail w.params) (hr : Rm A 30)
    (h : S w c G Z (((inEnv w L).locals, m) :: ns) l s) (hTo : ∀ tk, ∀ a ∈ c.T, a ∈ ns.map (·.1) ++ (l' tk).map (·.1)) (hm1 : m (Str.ofString "self") = some (.ref x)) (hm2 : m (Str.ofString "headers") = some (.ref hl)) (hx : (x, hdI dx) ∈ l) (hl0 : (hl, W.listOf vs.toArray n) ∈ l)
    (u : ∀ tk, Upd dx W.emptyDict (hdD w tk hl) l (l' tk)) (hx' : ∀ tk, (x, hdI dx) ∈ l' tk) (hl' : ∀ tk, (hl, W.listOf vs.toArray n) ∈ l' tk) (he : EntsAt Z vs es) (hf : ∀ e ∈ es, Finds0 w 48 e.1 ∧ Finds0 w 53 e.2) (hn : vs.length ≤ 10000)
    (k : ∀ tk m s', S w c G Z (((inEnv w L).locals, m) :: ns) (l' tk) s' → Q .next s') : wpAny (model PG w) A (execs body (inEnv w L)) Q E s := by
  subst hbd
  refine wpAny_execs_cons (wpAny_If (wpAny_isTrue_Compare1 ?_))
  with_reducible refine callT (T := "type") ?_
  have hlt : s.TypeIs (.ref hl) "list" := (isList_of (h.own' hl0)).typeIs
  refine is_ldb h.toZ0 (by kernel_rfl) (by kernel_rfl) (args_one (ld h hm2 ?_))
  refine call_type_of hlt (by decide) ?_
  refine ldb h.toZ0 (v := .type "list") (by kernel_rfl) (by kernel_rfl) (isnot_list (wpAny_truthy_bool ?_))
  refine wpAny_execs_nil ?_
  refine wpAny_execs_cons ?_
  refine plainObj_wpAny_Assign_Attribute ?_ (by kernel_rfl)
  refine ld h hm2 (ld h hm1 ?_)
  refine set_hdr (l' := l') h (h.own' hx) u fun tk s2 hS2 => ?_
  refine wpAny_execs_cons (wpAny_If ?_)
  refine isTrue_plain (con_bool (wpAny_truthy_bool ?_))
  have hdm := (u tk).mem'
  refine wpAny_execs_cons (wpAny_For (ld hS2 hm2 ?_) (fun _ => rfl))
  refine iter_list hS2 (hS2.own' (hl' tk)) fun I io s3 hne hJ _ hS3 => ?_
  refine forLoopJ (fun k' s' => ∃ i m io, k' = vs.length - i ∧ i ≤ vs.length ∧ (kList hl vs).J i io ∧ S w c G Z (((inEnv w L).locals, m) :: ns) ((I, io) :: l' tk) s' ∧ m (Str.ofString "self") = some (.ref x)) ?_ _ ⟨0, m, io, rfl, Nat.zero_le _, hJ, hS3, hm1⟩
  intro JJ jj E
  rintro k' s' ⟨i, m1, io1, rfl, hi, hJ1, hS, hms⟩
  have hTo' : ∀ a ∈ c.T, a ∈ (((inEnv w L).locals, m1) :: ns).map (·.1) ++ (l' tk).map (·.1) := fun a ha => .tail _ (hTo tk a ha)
  refine next_it (itr_list hr.handled I hl hne vs) hS hJ1 hi (isList_of (hS.own' (.tail _ (hl' tk)))) hTo' ?_ ?_
  · rintro rfl s4 hS4
    refine wpAny_execs_nil ?_
    refine wpAny_execs_nil ?_
    exact wpAny_execs_nil (k tk m1 s4 hS4)
  · intro hlt' v io2 s4 hP hJ2 hS4
    obtain ⟨T, kx, ux, tk1, tk2, rfl, hes, hT⟩ := he.at hP
    have hfe := hf _ (List.mem_of_getElem? hes)
    have hf1 : Finds0 w (reAt true) kx := hfe.1
    have hf2 : Finds0 w (reAt false) ux := hfe.2
    refine wpAny_letOwnedTupleGo_listiter (i := i + 1) (l := hl) ⟨io2, hS4.own' (.head _), hJ2.1, hJ2.2⟩ ?_
    refine assign_two hr.handled hS4 (hS4.z _ _ hT) fun s5 hS5 => ?_
    have hTo5 : ∀ a ∈ c.T, a ∈ (inEnv w L).locals :: (ns.map (·.1) ++ ((I, io2) :: l' tk).map (·.1)) := fun a ha => by
      have := hTo' a ha
      simp only [List.map_cons, List.mem_append, List.mem_cons, List.cons_append] at this ⊢
      rcases this with q | q | q
      · exact .inl q
      · exact .inr (.inl q)
      · exact .inr (.inr (.inr q))
    refine wpAny_execs_cons (wpAny_Expr ?_)
    with_reducible refine conv_call (x := x) (b := true) (v := kx) (t := tk1) (hr.le (by omega)) hS5 hTo5 ?_ ?_ (List.Mem.tail _ (hx' tk)) (List.Mem.tail _ hdm) hf1 ?_
    · walk_at "lk"
    · walk_at "lk"
    intro s6 hS6
    refine wpAny_execs_cons (wpAny_Expr ?_)
    with_reducible refine conv_call (x := x) (b := false) (v := ux) (t := tk2) (hr.le (by omega)) hS6 hTo5 ?_ ?_ (List.Mem.tail _ (hx' tk)) (List.Mem.tail _ hdm) hf2 ?_
    · walk_at "lk"
    · walk_at "lk"
    intro s7 hS7
    refine wpAny_execs_nil ?_
    exact ⟨vs.length - (i + 1), by have : i < vs.length := hlt'; omega, jj _ _ ⟨i + 1, _, io2, rfl, hlt', hJ2, hS7, by walk_at "lk"⟩⟩
end
section
variable {w : World} {c : Ctx0} {G : Array GenState} {Z : Zone} {ns : List (Addr × (Str → Option Value))} {l : List (Addr × Obj)} {s : Shared} {A : Around} {E Q : Value → Shared → Prop}
theorem bind_peek {fd : FuncData} {args : Args} {binds : List (Str × Value)} (hK : (KF w).In s.heap) (e : W.peek (KF w) ⟨PG, w.params⟩ (bindArgs fd args) = some binds) (Q : List (Str × Value) → Shared → Prop) (E : Value → Shared → Prop) (h : Q binds s) :
    wpAny (model PG w) A (bindArgs fd args) Q E s := (W.Looks.of_peek hK e).here h
/-- Headers(a list of entries) -/
theorem make1 {hl : Addr} {vs : List Value} {n : Nat} {es : List (Str × Str)} (hr : Rm A 40) (h : S w c G Z ns ((hl, W.listOf vs.toArray n) :: l) s) (hTo : ∀ a ∈ c.T, a ∈ ns.map (·.1) ++ l.map (·.1)) (he : EntsAt Z vs es) (hf : ∀ e ∈ es, Finds0 w 48 e.1 ∧ Finds0 w 53 e.2) (hn : vs.length ≤ 10000)
    (k : ∀ x dx tk s', c.sc.heap.get? x = none → c.sc.heap.get? dx = none → S w c G Z ns ((x, hdI dx) :: (dx, hdD w tk hl) :: (hl, W.listOf vs.toArray n) :: l) s' → Q (.ref x) s') : wpAny (model PG w) A (call (.ref 182) [.ref hl]) Q E s := by
  have h1 : (KF w).lookup 76 = some (obAt w.params 76) := by kernel_rfl
  have h2 : (obAt w.params 76).data = .func (fdAt w.params 76) := by kernel_rfl
  have h3 : codeIn (KF w) (fdAt w.params 76).code (fdAt w.params 76).qualname = true := by kernel_rfl
  have h4 : (fdAt w.params 76).body = .stmts (bodyAt w.params 76) := by kernel_rfl
  refine make_hdr h fun x dx s1 hxc hdc hS1 => ?_
  have h5 : W.peek (KF w) ⟨PG, w.params⟩ (bindArgs (fdAt w.params 76) ⟨[.ref x, .ref hl], []⟩) = some [(Str.ofString "self", .ref x), (Str.ofString "headers", .ref hl)] := by kernel_rfl
  with_reducible refine enterI (fun y => if y = Str.ofString "headers" then some (.ref hl) else (fun y => if y = Str.ofString "self" then some (.ref x) else none) y) (fun _ => []) (hr.tc [.ref hl]) hS1.kin hS1 h1 h2 h3 h4 (bind_peek hS1.kin h5) (by kernel_rfl) (by kernel_rfl) ?_
  intro L s2 hS2 hLc hr2
  refine wpAny_execs_cons (wpAny_Assign_Name ?_)
  refine wpAny_IfExp (wpAny_isTrue_Compare1 ?_)
  refine ld hS2 (v := .ref hl) (by walk_at "lk") (con_none (PyProof.Rows.isnot_none_gen (wpAny_truthy_bool ?_)))
  refine ld hS2 (v := .ref hl) (by walk_at "lk") (st hS2 fun s3 hS3 => ?_)
  with_reducible refine init_tail (x := x) (dx := dx) (hl := hl) (vs := vs) (n := n) (es := es) (l' := fun tk => (x, hdI dx) :: (dx, hdD w tk hl) :: (hl, W.listOf vs.toArray n) :: l) (by kernel_rfl) (hr2.le (by omega)) hS3 ?_ ?_ ?_ ?_ ?_ ?_ ?_ ?_ he hf hn ?_
  · intro tk a ha
    have := hTo a ha
    simp only [List.map_cons, List.mem_append, List.mem_cons] at this ⊢
    rcases this with q | q
    · exact .inl q
    · exact .inr (.inr (.inr (.inr q)))
  · walk_at "lk"
  · walk_at "lk"
  · exact .head _
  · exact .tail _ (.tail _ (.head _))
  · exact fun tk => .tail .head
  · exact fun tk => .head _
  · exact fun tk => .tail _ (.tail _ (.head _))
  · intro tk m s4 hS4
    refine ⟨rfl, k x dx tk s4 hxc hdc (hS4.sub (.cons _ (.refl _)) (.refl _))⟩
/-- Headers() -/
theorem make0 (hr : Rm A 40) (h : S w c G Z ns l s) (hTo : ∀ a ∈ c.T, a ∈ ns.map (·.1) ++ l.map (·.1))
    (k : ∀ x dx hl tk s', c.sc.heap.get? x = none → c.sc.heap.get? dx = none → c.sc.heap.get? hl = none → S w c G Z ns ((hl, W.listOf [].toArray 0) :: (x, hdI dx) :: (dx, hdD w tk hl) :: l) s' → Q (.ref x) s') : wpAny (model PG w) A (call (.ref 182) []) Q E s := by
  have h1 : (KF w).lookup 76 = some (obAt w.params 76) := by kernel_rfl
  have h2 : (obAt w.params 76).data = .func (fdAt w.params 76) := by kernel_rfl
  have h3 : codeIn (KF w) (fdAt w.params 76).code (fdAt w.params 76).qualname = true := by kernel_rfl
  have h4 : (fdAt w.params 76).body = .stmts (bodyAt w.params 76) := by kernel_rfl
  refine make_hdr h fun x dx s1 hxc hdc hS1 => ?_
  have h5 : W.peek (KF w) ⟨PG, w.params⟩ (bindArgs (fdAt w.params 76) ⟨[.ref x], []⟩) = some [(Str.ofString "self", .ref x), (Str.ofString "headers", .none)] := by kernel_rfl
  with_reducible refine enterI (fun y => if y = Str.ofString "headers" then some .none else (fun y => if y = Str.ofString "self" then some (.ref x) else none) y) (fun _ => []) (hr.tc []) hS1.kin hS1 h1 h2 h3 h4 (bind_peek hS1.kin h5) (by kernel_rfl) (by kernel_rfl) ?_
  intro L s2 hS2 hLc hr2
  refine wpAny_execs_cons (wpAny_Assign_Name ?_)
  refine wpAny_IfExp (wpAny_isTrue_Compare1 ?_)
  refine ld hS2 (v := .none) (by walk_at "lk") (con_none (PyProof.Rows.isnot_none_none (wpAny_truthy_bool ?_)))
  refine mk_list (args_nil ⟨_, _, _, _, _, hS2, by decide, fun hl s3 hlc hS3 => st hS3 fun s4 hS4 => ?_⟩)
  with_reducible refine init_tail (x := x) (dx := dx) (hl := hl) (vs := []) (n := 0) (es := []) (l' := fun tk => (hl, W.listOf [].toArray 0) :: (x, hdI dx) :: (dx, hdD w tk hl) :: l) (by kernel_rfl) (hr2.le (by omega)) hS4 ?_ ?_ ?_ ?_ ?_ ?_ ?_ ?_ EntsAt.nil ?_ ?_ ?_
  · intro tk a ha
    have := hTo a ha
    simp only [List.map_cons, List.mem_append, List.mem_cons] at this ⊢
    rcases this with q | q
    · exact .inl q
    · exact .inr (.inr (.inr (.inr q)))
  · walk_at "lk"
  · walk_at "lk"
  · exact .tail _ (.head _)
  · exact .head _
  · exact fun tk => .tail (.tail .head)
  · exact fun tk => .tail _ (.head _)
  · exact fun tk => .head _
  · exact fun _ q => nomatch q
  · exact Nat.zero_le _
  · intro tk m s5 hS5
    refine ⟨rfl, k x dx hl tk s5 hxc hdc hlc (hS5.sub (.cons _ (.refl _)) (.refl _))⟩
end
section
variable {w : World} {s : Shared} {A : Around} {E : Value → Shared → Prop} {env : Env} {pos : Pos} {Q : Value → Shared → Prop}
theorem part_is (x : Option (Int × Tok)) : IsPart (partV x) (x.map (·.1)) := by
  cases x with
  | none => exact .none
  | some v => exact .int ..
end
theorem pick_all (vs : List Value) : slicePick vs.toArray none none none = vs.toArray := slicePick_all _
section
variable {w : World} {c : Ctx0} {G : Array GenState} {Z : Zone} {ns : List (Addr × (Str → Option Value))} {l : List (Addr × Obj)} {s : Shared} {A : Around} {E : Value → Shared → Prop} {env : Env}
/-- o[lo:hi], whatever o is -/
theorem sub_slice {value : PySem.Expr} {lower upper : Option PySem.Expr} {p pos : Pos} {T id : String} {Q : Value → Shared → Prop}
    (hl : typeLookup (.type T) "__getitem__" = pure (some (.builtin id)))
    (h : wpAny (model PG w) A (eval value env) (fun o s₁ => wpAny (model PG w) A (eval (.Slice lower upper none p) env) (fun i s₂ => s₂.TypeIs o T ∧ wpAny (model PG w) A (getItem o i) Q E s₂) E s₁) E s) :
    wpAny (model PG w) A (eval (.Subscript value (.Slice lower upper none p) pos) env) Q E s := by
  rw [eval_Subscript]
  refine wpAny_bind (wpAny_mono h (fun o s₁ h₁ => wpAny_bind (wpAny_holding (wpAny_mono h₁ (fun i s₂ h₂ => wpAny_bind (wpAny_standAt ?_)) fun _ _ x => x)))
    fun _ _ x => x)
  have fin : wpAny (model PG w) A (operate [i, o] (getItem o i)) (fun r s₃ => wpAny (model PG w) A (letTemporaryGo value o r >>= fun _ => pure r) Q E s₃) E s₂ :=
    wpAny_operating (wpAny_mono h₂.2 (fun r s₃ h₃ => wpAny_bind (wpAny_letTemporaryGo (wpAny_pure h₃))) fun _ _ x => x)
  refine wpAny_bind ?_
  rw [getitemInPython_of_ne h₂.1.not_modules]
  refine wpAny_bind (wpAny_specialOf h₂.1 hl ?_)
  first
    | exact wpAny_pure (wpAny_bind fin)
    | exact wpAny_bind (wpAny_pure (wpAny_bind fin))
    | exact wpAny_bind fin
/-- l[lo:hi] of a list, whatever the expression -/
theorem sl_listG {pos : Pos} {value : PySem.Expr} {lower upper : Option PySem.Expr} {p : Pos} (a : Addr) (vs : List Value) (n : Nat) (lo hi : Option (Int × Tok)) {Q : Value → Shared → Prop}
    (hq : wpAny (model PG w) A (eval value env) (fun o s₁ => o = .ref a ∧ wpAny (model PG w) A (evalPart lower env) (fun x s₂ => x = partV lo ∧ wpAny (model PG w) A (evalPart upper env) (fun y s₃ => y = partV hi ∧ ∃ c G Z r l, S w c G Z r l s₃ ∧ s₃.heap.get? a = some (W.listOf vs.toArray n) ∧ vs.length ≤ sizeLine ∧
      ∀ D s', c.sc.heap.get? D = none → S w c G Z r ((D, W.listOf (slicePick vs.toArray (lo.map (·.1)) (hi.map (·.1)) none) 0) :: l) s' → Q (.ref D) s') E s₂) E s₁) E s) :
    wpAny (model PG w) A (eval (.Subscript value (.Slice lower upper none p) pos) env) Q E s := by
  refine sub_slice (T := "list") slot_list_getitem.lookup (wpAny_mono hq (fun o s₁ h₁ => ?_) fun _ _ x => x)
  obtain ⟨rfl, h₁⟩ := h₁
  refine wpAny_Slice (wpAny_mono h₁ (fun x s₂ h₂ => ?_) fun _ _ x => x)
  obtain ⟨rfl, h₂⟩ := h₂
  refine wpAny_mono h₂ (fun y s₃ h₃ => ?_) fun _ _ x => x
  obtain ⟨rfl, c, G, Z, r, l, hS, ha, hsz, hQ⟩ := h₃
  refine wpAny_pure ?_
  have h1 := hS.heapK (h' := s₃.heap.push { cls := .type "slice", data := .fields #[partV lo, partV hi, .none] }) fun b o' e => Heap.get?_push_of_some _ e
  have hl : ({ s₃ with heap := s₃.heap.push { cls := .type "slice", data := .fields #[partV lo, partV hi, .none] } } : Shared).heap.IsList a vs.toArray := (isList_of ha).push _
  refine ⟨hl.typeIs, wpAny_getItem_list_slice hl (Heap.IsSliceOf.new ..) (part_is lo) (part_is hi) .none (by simp) ?_ (by rw [List.size_toArray]; exact hsz)⟩
  exact hQ _ _ h1.new (h1.push (W.listOf (slicePick vs.toArray (lo.map (·.1)) (hi.map (·.1)) none) 0) rfl)
end
section
variable {w : World} {c : Ctx0} {G : Array GenState} {Z : Zone} {ns : List (Addr × (Str → Option Value))} {l : List (Addr × Obj)} {s : Shared} {A : Around} {E Q : Value → Shared → Prop}
/-- items() -/
theorem items_ok {x dx hl : Addr} {tk : Tok} {vs : List Value} {n : Nat} (hr : Rm A 30) (h : S w c G Z ns l s) (hx : s.heap.get? x = some (hdI dx)) (hd : s.heap.get? dx = some (hdD w tk hl)) (hv : s.heap.get? hl = some (W.listOf vs.toArray n)) (hn : vs.length ≤ sizeLine)
    (hx' : (x, hdI dx) ∈ l) (hd' : (dx, hdD w tk hl) ∈ l) (hv' : (hl, W.listOf vs.toArray n) ∈ l)
    (k : ∀ D s', c.sc.heap.get? D = none → S w c G Z ns ((D, W.listOf vs.toArray 0) :: l) s' → Q (.ref D) s') : wpAny (model PG w) A (call (.ref 146) [.ref x]) Q E s := by
  have h1 : (KF w).lookup 146 = some (obAt w.params 146) := by kernel_rfl
  have h2 : (obAt w.params 146).data = .func (fdAt w.params 146) := by kernel_rfl
  have h3 : codeIn (KF w) (fdAt w.params 146).code (fdAt w.params 146).qualname = true := by kernel_rfl
  have h4 : (fdAt w.params 146).body = .stmts (bodyAt w.params 146) := by kernel_rfl
  have h5 : bindArgs (fdAt w.params 146) ⟨[.ref x], []⟩ = pure [(Str.ofString "self", .ref x)] := by kernel_rfl
  refine wpAny_call ?_
  with_reducible refine enterI (fun y => if y = Str.ofString "self" then some (.ref x) else none) (fun _ => []) hr h.kin h h1 h2 h3 h4 (bind_pure h5) (by kernel_rfl) (by kernel_rfl) ?_
  intro L s2 hS2 hLc hr2
  refine wpAny_execs_cons (wpAny_Return_some ?_)
  have hS2 : S w c G Z _ l s2 := hS2
  with_reducible refine sl_listG hl vs n none none ?_
  refine ld_hdr (dx := dx) (hl := hl) (tk := tk) hS2 (x := x) (by walk_at "lk") (hS2.own' hx') (hS2.own' hd') fun s3 hS3 => ⟨rfl, part_none ⟨rfl, part_none ⟨rfl, c, G, Z, _, l, hS3, hS3.own' hv', hn, fun D s4 hD hS4 => ?_⟩⟩⟩
  have e : slicePick vs.toArray (Option.map (·.1) (none : Option (Int × Tok))) (Option.map (·.1) (none : Option (Int × Tok))) none = vs.toArray := pick_all vs
  rw [e] at hS4
  exact k D s4 hD (hS4.sub (.cons _ (.refl _)) (.refl _))
end
inductive StrsV : List Value → List Str → Prop
  | nil : StrsV [] []
  | cons (x : Str) (t : Tok) {vs xs} : StrsV vs xs → StrsV (.str x t :: vs) (x :: xs)
theorem StrsV.append {vs ws : List Value} {xs ys : List Str} (h : StrsV vs xs) (k : StrsV ws ys) : StrsV (vs ++ ws) (xs ++ ys) := by
  induction h with
  | nil => exact k
  | cons x t _ ih => exact .cons x t ih
theorem StrsV.snoc {vs : List Value} {xs : List Str} (h : StrsV vs xs) (x : Str) (t : Tok) : StrsV (vs ++ [.str x t]) (xs ++ [x]) := h.append (.cons x t .nil)
theorem StrsV.length {vs : List Value} {xs : List Str} (h : StrsV vs xs) : vs.length = xs.length := by
  induction h with
  | nil => rfl
  | cons _ _ _ ih => simp [ih]
theorem StrsV.at {vs : List Value} {xs : List Str} (h : StrsV vs xs) : ∀ {i : Nat} {v : Value}, vs[i]? = some v → ∃ x t, v = .str x t ∧ xs[i]? = some x := by
  induction h with
  | nil => intro i v h; simp at h
  | cons x t _ ih =>
    intro i v h
    cases i with
    | zero => simp at h; subst h; exact ⟨x, t, rfl, rfl⟩
    | succ i => simp at h; exact ih h
theorem take_succ_map {α β : Type} (f : α → β) {l : List α} {i : Nat} {a : α} (h : l[i]? = some a) : (l.take (i + 1)).map f = (l.take i).map f ++ [f a] := by
  rw [List.take_add_one, h]; simp
section
variable {w : World} {c : Ctx0} {G : Array GenState} {Z : Zone} {ns : List (Addr × (Str → Option Value))} {l : List (Addr × Obj)} {s : Shared} {A : Around} {E Q : Value → Shared → Prop}
/-- values() -/
theorem values_ok {x dx hl : Addr} {tk : Tok} {vs : List Value} {n : Nat} {es : List (Str × Str)} (hr : Rm A 30) (h : S w c G Z ns l s) (hTo : ∀ a ∈ c.T, a ∈ ns.map (·.1) ++ l.map (·.1)) (he : EntsAt Z vs es) (hn : vs.length ≤ 10000)
    (hx' : (x, hdI dx) ∈ l) (hd' : (dx, hdD w tk hl) ∈ l) (hv' : (hl, W.listOf vs.toArray n) ∈ l)
    (k : ∀ D ys m s', c.sc.heap.get? D = none → StrsV ys (es.map (·.2)) → S w c G Z ns ((D, W.listOf ys.toArray m) :: l) s' → Q (.ref D) s') : wpAny (model PG w) A (call (.ref 139) [.ref x]) Q E s := by
  have h1 : (KF w).lookup 139 = some (obAt w.params 139) := by kernel_rfl
  have h2 : (obAt w.params 139).data = .func (fdAt w.params 139) := by kernel_rfl
  have h3 : codeIn (KF w) (fdAt w.params 139).code (fdAt w.params 139).qualname = true := by kernel_rfl
  have h4 : (fdAt w.params 139).body = .stmts (bodyAt w.params 139) := by kernel_rfl
  have h5 : bindArgs (fdAt w.params 139) ⟨[.ref x], []⟩ = pure [(Str.ofString "self", .ref x)] := by kernel_rfl
  refine wpAny_call ?_
  with_reducible refine enterI (fun y => if y = Str.ofString "self" then some (.ref x) else none) (fun _ => []) hr h.kin h h1 h2 h3 h4 (bind_pure h5) (by kernel_rfl) (by kernel_rfl) ?_
  intro L s2 hS2 hLc hr2
  have hS2 : S w c G Z _ l s2 := hS2
  refine wpAny_execs_cons (wpAny_Return_some ?_)
  refine comp (cl := []) ?_
  refine ld_hdr (dx := dx) (hl := hl) (tk := tk) hS2 (x := x) (by walk_at "lk") (hS2.own' hx') (hS2.own' hd') fun s3 hS3 => ?_
  refine iter_list hS3 (hS3.own' hv') fun I io s4 hne hJ hIc hS4 => ?_
  refine ⟨c, G, Z, _, ns, l, I, io, kList hl vs, fun i ys Z' => StrsV ys ((es.take i).map (·.2)) ∧ Z' = Z, rfl, itr_list hr2.handled I hl hne vs, hJ, hn, hS4, fun a ha => .tail _ (hTo a ha), ⟨.nil, rfl⟩, fun Z' ns' a b s' hS' _ => isList_of (hS'.own' (.tail _ (.tail _ hv'))), ?_, ?_⟩
  · intro C D i v ys Z' m k' io' s5 E hi hP hJ' hI hle hS5
    obtain ⟨hI, rfl⟩ := hI
    obtain ⟨T, kx, ux, tk1, tk2, rfl, hes, hT⟩ := he.at hP
    refine wpAny_letOwnedTupleGo_listiter (i := i + 1) (l := hl) ⟨io', hS5.own' (.head _), hJ'.1, hJ'.2⟩ ?_
    refine assign_two hr2.handled hS5 (hS5.z _ _ hT) fun s6 hS6 => ?_
    refine wpAny_pure ?_
    rw [if_pos rfl]
    refine ld hS6 (v := .str ux tk2) (by walk_at "lk") ⟨Z', _, .refl _, hS6, ?_, rfl⟩
    rw [take_succ_map _ hes]
    exact hI.snoc ux tk2
  · intro D ys Z' k' s5 hD hI hle hS5
    obtain ⟨hI, rfl⟩ := hI
    have e : (kList hl vs).n = es.length := he.length
    rw [e, List.take_length] at hI
    exact k D ys k' s5 hD hI (hS5.sub (.cons _ (.refl _)) (.refl _))
end
section
variable {w : World} {c : Ctx0} {G : Array GenState} {Z : Zone} {ns : List (Addr × (Str → Option Value))} {l : List (Addr × Obj)} {s : Shared} {A : Around} {E Q : Value → Shared → Prop}
theorem empty_at {h : Heap} {d : Addr} (e : h.get? d = some W.emptyDict) : h.DictAt (_root_.PySem.strKind PG w) d [] 0 := by
  refine ⟨_, #[], e, ⟨rfl, rfl, rfl⟩, rfl, ?_, ?_, .nil⟩
  · intro x hx; simp at hx
  · exact .nil
theorem ah_bind {x : Addr} {a b : Str} {ta tb : Tok} (Q : List (Str × Value) → Shared → Prop) (E : Value → Shared → Prop)
    (h : Q [(Str.ofString "self", .ref x), (Str.ofString "_name", .str a ta), (Str.ofString "_value", .str b tb), (Str.ofString "_params", .ref s.heap.objs.size)] { s with heap := s.heap.push W.emptyDict }) :
    wpAny (model PG w) A (bindArgs (fdAt w.params 179) ⟨[.ref x, .str a ta, .str b tb], []⟩) Q E s := by
  have e : bindArgs (fdAt w.params 179) ⟨[.ref x, .str a ta, .str b tb], []⟩ = (do
    let d ← alloc W.emptyDict
    pure [(Str.ofString "self", .ref x), (Str.ofString "_name", .str a ta), (Str.ofString "_value", .str b tb), (Str.ofString "_params", .ref d)]) := by kernel_rfl
  rw [e]
  exact wpAny_bind (wpAny_alloc (wpAny_pure h))
noncomputable abbrev ahEnv (w : World) (L : Addr) : Env := callEnvC (fdAt w.params 179) L 179
theorem join_one (sep x : Str) : Txt.join sep [x] = x := (glued_eq_join _ _).trans rfl
/-- _params.items() of the empty one -/
theorem call_items {d : Addr} (h : S w c G Z ns l s) (hd : s.heap.get? d = some W.emptyDict) (hs : (d == sysModules) = false)
    (k : ∀ v s', c.sc.heap.get? v = none → S w c G Z ns ((v, { cls := .type "dict_items", data := .fields #[.ref d] }) :: l) s' → Q (.ref v) s') : wpAny (model PG w) A (call (.builtin "dict.items") [.ref d]) Q E s := by
  have hda := empty_at (w := w) hd
  refine call_meetsIn F.slot_dict_items (B := Builtin.«dict.items») hda.dictOf.typeIs F.entry_dict_items (F.args_dict_items_1 _) (meets_dict_items (_root_.PySem.strKind PG w) d hs) ⟨⟨[], hda.dictOf⟩, ?_⟩
  exact k _ _ h.new (h.push _ rfl)
/-- add_header(name, value) -/
theorem add_header_ok {x dx hl : Addr} {tk : Tok} {vs : List Value} {n : Nat} {a b : Str} {ta tb : Tok} {l' : Addr → List (Addr × Obj)} (hr : Rm A 40) (h : S w c G Z ns l s) (hTo : ∀ a ∈ c.T, a ∈ ns.map (·.1) ++ l.map (·.1)) (hn : vs.length ≤ 10000)
    (hx' : (x, hdI dx) ∈ l) (hd' : (dx, hdD w tk hl) ∈ l) (u : ∀ T, Upd hl (W.listOf vs.toArray n) (W.listOf (vs ++ [Value.ref T]).toArray (n + 1)) l (l' T)) (ha : Finds0 w 48 a) (hb : Finds0 w 53 b) (hbl : b.length ≤ 1000)
    (k : ∀ T tb' s', c.sc.heap.get? T = none → S w c G Z ns ((T, tupObj [.str a ta, .str b tb']) :: l' T) s' → Q .none s') : wpAny (model PG w) A (call (.ref 179) [.ref x, .str a ta, .str b tb]) Q E s := by
  have h1 : (KF w).lookup 179 = some (obAt w.params 179) := by kernel_rfl
  have h2 : (obAt w.params 179).data = .func (fdAt w.params 179) := by kernel_rfl
  have h3 : codeIn (KF w) (fdAt w.params 179).code (fdAt w.params 179).qualname = true := by kernel_rfl
  have h4 : (fdAt w.params 179).body = .stmts (bodyAt w.params 179) := by kernel_rfl
  refine wpAny_call ?_
  have hS1 := h.push W.emptyDict rfl
  have hdc := h.new
  have hdz : (s.heap.objs.size == sysModules) = false := by
    have q : 179 < s.heap.objs.size := Heap.lt_size (h.kin _ _ h1)
    have : s.heap.objs.size ≠ 1 := by omega
    simpa [sysModules] using this
  with_reducible refine enterI (fun y => if y = Str.ofString "_params" then some (.ref s.heap.objs.size) else (fun y => if y = Str.ofString "_value" then some (.str b tb) else (fun y => if y = Str.ofString "_name" then some (.str a ta) else (fun y => if y = Str.ofString "self" then some (.ref x) else none) y) y) y) (fun _ => []) hr h.kin hS1 h1 h2 h3 h4 (fun Q E q => ah_bind Q E q) (by kernel_rfl) (by kernel_rfl) ?_
  intro L s2 hS2 hLc hr2
  generalize s.heap.objs.size = d at *
  have hS2 : S w c G Z _ ((d, W.emptyDict) :: l) s2 := hS2
  refine wpAny_execs_cons (wpAny_Assign_Name (mk_list (args_nil ⟨_, _, _, _, _, hS2, by decide, fun P s3 hPc hS3 => st hS3 fun s4 hS4 => ?_⟩)))
  refine wpAny_execs_cons (wpAny_If (wpAny_isTrue_Compare1 ?_))
  refine ld hS4 (v := .str b tb) (by walk_at "lk") (con_none (PyProof.Rows.isnot_none_gen (wpAny_truthy_bool ?_)))
  have hTo4 : ∀ p ∈ c.T, p ∈ (ahEnv w L).locals :: (ns.map (·.1) ++ ((P, W.listOf [].toArray 0) :: (d, W.emptyDict) :: l).map (·.1)) := fun p hp => by
    have := hTo p hp
    simp only [List.map_cons, List.mem_append, List.mem_cons] at this ⊢
    rcases this with q | q
    · exact .inr (.inl q)
    · exact .inr (.inr (.inr (.inr q)))
  refine wpAny_execs_cons (wpAny_Assign_Name ?_)
  have hf1 : Finds0 w (reAt true) a := ha
  have hf2 : Finds0 w (reAt false) b := hb
  with_reducible refine conv_call (x := x) (b := false) (v := b) (t := tb) (hr2.le (by omega)) hS4 hTo4 ?_ ?_ (List.Mem.tail _ (List.Mem.tail _ hx')) (List.Mem.tail _ (List.Mem.tail _ hd')) hf2 ?_
  · walk_at "lk"
  · walk_at "lk"
  intro s5 hS5
  refine st hS5 fun s6 hS6 => ?_
  refine wpAny_execs_cons (wpAny_Expr ?_)
  with_reducible refine append_own ?_
  refine ld hS6 (v := .ref P) (by walk_at "lk") ⟨P, #[], 0, rfl, hS6.own' (.head _), ?_⟩
  refine ld hS6 (v := .str b tb) (by walk_at "lk") ⟨_, _, _, _, _, _, hS6, .head, by decide, fun s7 hS7 => ?_⟩
  refine wpAny_execs_nil ?_
  refine wpAny_execs_cons (wpAny_For ?_ (fun _ => rfl))
  refine Call_method0 (by kernel_rfl) (by kernel_rfl) ?_
  refine ld hS7 (v := .ref d) (by walk_at "lk") ?_
  have hds : s7.heap.get? d = some W.emptyDict := hS7.own' (.tail _ (.head _))
  refine ⟨"dict", "dict.items", F.plainAttrs_dict, F.slot_dict_items, F.type_dict_items, (empty_at (w := w) hds).dictOf.typeIs, (fun q e => by cases e; exact ⟨_, hds, rfl⟩), ?_⟩
  refine Calls.callWith_builtin rfl (wpAny_pure ?_)
  refine call_items hS7 hds hdz fun v s8 hvc hS8 => ?_
  refine wpAny_pyIter_items (knd := _root_.PySem.strKind PG w) (d := d) (kvs := []) (ep := 0) ⟨_, hS8.own' (.head _), rfl, rfl⟩ (empty_at (hS8.own' (.tail _ (.tail _ (.head _))))) ?_
  have hIc := hS8.new
  have hS9 := hS8.push { cls := .type "dict_itemiterator", data := .fields #[.none, .bool false, .ref d, .int 0 0, .int (([] : List (Str × Value)).length : Nat) 0, .int (0 : Nat) 0, .none, .none] } rfl
  generalize s8.heap.objs.size = I at *
  refine codeAny_forLoop_any (fun k' s' => ∃ io, S w c G Z _ ((I, io) :: _) s' ∧ io = _) ?_ 0 ⟨_, hS9, rfl⟩
  rintro k' s' ⟨io, hS, rfl⟩
  refine wpAny_pyNext_items_end (knd := _root_.PySem.strKind PG w) (d := d) (kvs := []) (i := 0) (ep := 0) hr2.handled (hS.own' (.head _)) (empty_at (hS.own' (.tail _ (.tail _ (.tail _ (.head _)))))) rfl fun h' hext => ?_
  have hS10 := hS.dropI s'.toks (fun b o hb e => hext b o hb e) (fun p hp => by
    have := hTo p hp
    simp only [List.map_cons, List.mem_append, List.mem_cons] at this ⊢
    rcases this with q | q
    · exact .inl (.inr q)
    · exact .inr (.inr (.inr (.inr q))))
  have hpl : (P, W.listOf (strValues [(b, tb)]).toArray 1) ∈ (v, ({ cls := .type "dict_items", data := .fields #[.ref d] } : Obj)) :: (P, W.listOf ((#[] : Array Value).push (Value.str b tb)) (0 + 1)) :: (d, W.emptyDict) :: l := .tail _ (.head _)
  refine wpAny_execs_nil ?_
  refine wpAny_execs_cons (wpAny_Expr ?_)
  with_reducible refine append_own ?_
  refine ld_hdr (dx := dx) (hl := hl) (tk := tk) hS10 (x := x) (by walk_at "lk") (hS10.own' (.tail _ (.tail _ (.tail _ hx')))) (hS10.own' (.tail _ (.tail _ (.tail _ hd')))) fun s11 hS11 => ?_
  refine ⟨hl, vs.toArray, n, rfl, hS11.own' (.tail _ (.tail _ (.tail _ (u 0).mem))), ?_⟩
  refine mk_tuple (args_cons ?_)
  have hTo11 : ∀ p ∈ c.T, p ∈ (ahEnv w L).locals :: (ns.map (·.1) ++ ((v, ({ cls := .type "dict_items", data := .fields #[.ref d] } : Obj)) :: (P, W.listOf ((#[] : Array Value).push (Value.str b tb)) (0 + 1)) :: (d, W.emptyDict) :: l).map (·.1)) := fun p hp => by
    have := hTo p hp
    simp only [List.map_cons, List.mem_append, List.mem_cons] at this ⊢
    rcases this with q | q
    · exact .inr (.inl q)
    · exact .inr (.inr (.inr (.inr (.inr q))))
  with_reducible refine conv_call (x := x) (b := true) (v := a) (t := ta) (hr2.le (by omega)) hS11 hTo11 ?_ ?_ (List.Mem.tail _ (List.Mem.tail _ (List.Mem.tail _ hx'))) (List.Mem.tail _ (List.Mem.tail _ (List.Mem.tail _ hd'))) hf1 ?_
  · walk_at "lk"
  · walk_at "lk"
  intro s12 hS12
  refine args_one ?_
  with_reducible refine callS F.slot_str_join F.type_str_join ?_
  refine con_str hS12 fun t1 s13 hS13 => ?_
  refine ⟨_, _, rfl, ?_⟩
  refine ld hS13 (v := .ref P) (by walk_at "lk") ?_
  refine SC.join (l := [(b, tb)]) (isList_of (hS13.own' hpl)) rfl ?_ fun t' kk => ?_
  · have : JoinOk (Str.ofString "; ") [b] = true := by
      unfold JoinOk
      rw [joinFits (B := 1000) (fun y hy => by rw [List.mem_singleton.mp hy]; exact hbl) (by
        have : (Str.ofString "; ").length = 2 := by decide +kernel
        rw [this]; show 1 * 1000 + 1 * 2 ≤ _; decide)]
      rfl
    exact this
  rw [show Txt.join (Str.ofString "; ") (List.map (fun x => x.1) [(b, tb)]) = b from join_one _ _]
  have hS14 := hS13.toks kk
  refine ⟨_, _, _, _, _, hS14, (by show 2 ≤ sizeLine; decide), fun T s15 hTc hS15 => ?_⟩
  have u' : Upd hl (W.listOf vs.toArray n) (W.listOf (vs.toArray.push (.ref T)) (n + 1)) l (l' T) := by rw [List.push_toArray]; exact u T
  refine ⟨_, _, _, _, _, _, hS15, .tail (.tail (.tail (.tail u'))), (by rw [List.size_toArray, sizeLine_eq]; omega), fun s16 hS16 => ?_⟩
  refine wpAny_execs_nil ?_
  exact k T t' s16 hTc (hS16.sub (.cons _ (.refl _)) (.cons_cons _ (.cons _ (.cons _ (.cons _ (.refl _))))))
end
section
variable {w : World} {c : Ctx0} {G : Array GenState} {Z : Zone} {ns : List (Addr × (Str → Option Value))} {l : List (Addr × Obj)} {s : Shared} {A : Around} {E Q : Value → Shared → Prop}
theorem filter_step {α β : Type} {p : α → Bool} {f : α → β} {es : List α} {i : Nat} {e : α} (h : es[i]? = some e) : ((es.take (i + 1)).filter p).map f = ((es.take i).filter p).map f ++ (if p e = true then [f e] else []) := by
  have e1 : es.take (i + 1) = es.take i ++ [e] := by rw [List.take_add_one, h]; rfl
  rw [e1, List.filter_append, List.map_append, List.filter_cons]
  by_cases q : p e = true
  · rw [if_pos q, if_pos q]; rfl
  · rw [if_neg q, if_neg q]; rfl
theorem ga_step (lo : Str → Str) (y : Str) {es : List (Str × Str)} {i : Nat} {kx ux : Str} (h : es[i]? = some (kx, ux)) :
    ((es.take (i + 1)).filter fun e => lo e.1 == y).map (·.2) = ((es.take i).filter fun e => lo e.1 == y).map (·.2) ++ (if (lo kx == y) = true then [ux] else []) := filter_step h
/-- an item of a tuple -/
theorem item_tup {value slice : PySem.Expr} {T : Addr} {vs : List Value} {k : Int} {u : Tok} {v : Value} (ho : s.heap.get? T = some (tupObj vs)) (h0 : 0 ≤ k) (hhi : k < 2 ^ 63) (hlt : k < vs.length) (hx : vs[k.toNat]? = some v) (h : Q v s)
    (hs : subscripted slice false (.ref T) (.int k u) = operate [.ref T, .int k u] (getItem (.ref T) (.int k u)) := by kernel_rfl) :
    wpAny (model PG w) A (subscriptTail value slice (.ref T) (.int k u)) Q E s := by
  refine item_tupleT (l := vs) (j := k.toNat) ?_ (by omega) hhi ?_ hx h hs
  · exact ⟨_, ho, rfl, _, rfl⟩
  · unfold seqIndex?
    have : ¬ k < 0 := by omega
    simp [this]
    omega
noncomputable abbrev gaEnv (w : World) (L : Addr) : Env := callEnvC (fdAt w.params 121) L 121
/-- get_all(name), nothing found in the name -/
theorem get_all_ok {x dx hl : Addr} {tk : Tok} {vs : List Value} {n : Nat} {es : List (Str × Str)} {nm : Str} {tn : Tok} (hr : Rm A 40) (h : S w c G Z ns l s) (hTo : ∀ a ∈ c.T, a ∈ ns.map (·.1) ++ l.map (·.1)) (he : EntsAt Z vs es) (hn : vs.length ≤ 10000)
    (hx' : (x, hdI dx) ∈ l) (hd' : (dx, hdD w tk hl) ∈ l) (hv' : (hl, W.listOf vs.toArray n) ∈ l) (hf : Finds0 w 48 (Txt.lower nm)) (hfit : tooLong (Txt.lower nm).length = false) (hes : ∀ e ∈ es, tooLong (Txt.lower e.1).length = false)
    (k : ∀ D ys m s', c.sc.heap.get? D = none → StrsV ys ((es.filter fun e => Txt.lower e.1 == Txt.lower nm).map (·.2)) → S w c G Z ns ((D, W.listOf ys.toArray m) :: l) s' → Q (.ref D) s') : wpAny (model PG w) A (call (.ref 121) [.ref x, .str nm tn]) Q E s := by
  have h1 : (KF w).lookup 121 = some (obAt w.params 121) := by kernel_rfl
  have h2 : (obAt w.params 121).data = .func (fdAt w.params 121) := by kernel_rfl
  have h3 : codeIn (KF w) (fdAt w.params 121).code (fdAt w.params 121).qualname = true := by kernel_rfl
  have h4 : (fdAt w.params 121).body = .stmts (bodyAt w.params 121) := by kernel_rfl
  have h5 : bindArgs (fdAt w.params 121) ⟨[.ref x, .str nm tn], []⟩ = pure [(Str.ofString "self", .ref x), (Str.ofString "name", .str nm tn)] := by kernel_rfl
  refine wpAny_call ?_
  with_reducible refine enterI (fun y => if y = Str.ofString "self" then some (.ref x) else none) (fun L => [(L + 1, cellO (some (.str nm tn)))]) hr h.kin h h1 h2 h3 h4 (bind_pure h5) (by kernel_rfl) (by kernel_rfl) ?_
  intro L s2 hS2 hLc hr2
  have hS2 : S w c G Z _ ((L + 1, cellO (some (.str nm tn))) :: l) s2 := hS2
  have hTo2 : ∀ a ∈ c.T, a ∈ (gaEnv w L).locals :: (ns.map (·.1) ++ ((L + 1, cellO (some (.str nm tn))) :: l).map (·.1)) := fun p hp => by
    have := hTo p hp
    simp only [List.map_cons, List.mem_append, List.mem_cons] at this ⊢
    rcases this with q | q
    · exact .inr (.inl q)
    · exact .inr (.inr (.inr q))
  refine wpAny_execs_cons (wpAny_Assign_Name ?_)
  with_reducible refine callM (f := 83) ?_
  refine ld hS2 (v := .ref x) (by walk_at "lk") ⟨x, dx, hl, tk, rfl, hS2.kin, hS2.own' (.tail _ hx'), hS2.own' (.tail _ hd'), ?_⟩
  with_reducible refine argsMK (by kernel_rfl) ?_
  with_reducible refine callS0 F.slot_str_lower F.type_str_lower ?_
  refine ldc hS2 (a := L + 1) (v := .str nm tn) (.head _) ⟨nm, tn, rfl, SC.lower hfit ?_⟩
  have hS3 := hS2.toks (s2.toks + 1)
  refine con_bool ⟨hS3.kin, ?_⟩
  have hf1 : Finds0 w (reAt true) (Txt.lower nm) := hf
  refine convert_ok (b := true) (hr2.le (by omega)) hS3.toZ0 hf1 fun s4 hz4 => ?_
  have hS4 := hS3.back hz4 hTo2
  refine stc hS4 (a := L + 1) .head fun s5 hS5 => ?_
  refine wpAny_execs_cons (wpAny_Return_some ?_)
  refine comp (cl := [(Str.ofString "name", L + 1)]) ?_
  refine ld_hdr (dx := dx) (hl := hl) (tk := tk) hS5 (x := x) (by walk_at "lk") (hS5.own' (.tail _ hx')) (hS5.own' (.tail _ hd')) fun s6 hS6 => ?_
  refine iter_list hS6 (hS6.own' (.tail _ hv')) fun I io s7 hne hJ hIc hS7 => ?_
  refine ⟨c, G, Z, _, ns, _, I, io, kList hl vs, fun i ys Z' => StrsV ys (((es.take i).filter fun e => Txt.lower e.1 == Txt.lower nm).map (·.2)) ∧ Z' = Z, rfl, itr_list hr2.handled I hl hne vs, hJ, hn, hS7, hTo2, ⟨.nil, rfl⟩, fun Z' ns' a b s' hS' _ => isList_of (hS'.own' (.tail _ (.tail _ (.tail _ hv')))), ?_, ?_⟩
  · intro C D i v ys Z' m k' io' s8 E hi hP hJ' hI hle hS8
    obtain ⟨hI, rfl⟩ := hI
    obtain ⟨T, kx, ux, tk1, tk2, rfl, hes', hT⟩ := he.at hP
    have hkl := hes _ (List.mem_of_getElem? hes')
    have hkl : tooLong (Txt.lower kx).length = false := hkl
    refine wpAny_pure ?_
    refine wpAny_assign_Name (st hS8 fun s9 hS9 => ?_)
    rw [List.forIn_cons]
    simp only [if_true]
    refine wpAny_bind (wpAny_bind (wpAny_isTrue_Compare1 ?_))
    with_reducible refine callS0 F.slot_str_lower F.type_str_lower ?_
    refine Subscript_ (ld hS9 (v := .ref T) (by walk_at "lk") (con_int hS9 fun t1 s10 hS10 => ?_))
    refine item_tup (hS10.z _ _ hT) (by decide) (by decide) (by show (0 : Int) < 2; decide) rfl ⟨kx, tk1, rfl, SC.lower hkl ?_⟩
    have hS11 := hS10.toks (s10.toks + 1)
    refine ldc hS11 (a := L + 1) (v := .str (Txt.lower nm) s2.toks) (.tail _ (.tail _ (.head _))) ?_
    refine PyProof.Rows.eq_str (wpAny_truthy_bool (wpAny_pure ?_))
    refine wpAny_pure ?_
    have hstep := ga_step Txt.lower (Txt.lower nm) hes'
    by_cases q : (Txt.lower kx == Txt.lower nm) = true
    · rw [if_pos q] at hstep ⊢
      refine Subscript_ (ld hS11 (v := .ref T) (by walk_at "lk") (con_int hS11 fun t2 s12 hS12 => ?_))
      refine item_tup (hS12.z _ _ hT) (by decide) (by decide) (by show (1 : Int) < 2; decide) rfl ⟨Z', _, .refl _, hS12, ?_, rfl⟩
      rw [hstep]
      exact hI.snoc ux tk2
    · rw [if_neg q] at hstep ⊢
      refine ⟨Z', _, .refl _, hS11, ?_, rfl⟩
      rw [hstep, List.append_nil]
      exact hI
  · intro D ys Z' k' s8 hD hI hle hS8
    obtain ⟨hI, rfl⟩ := hI
    have e : (kList hl vs).n = es.length := he.length
    rw [e, List.take_length] at hI
    exact k D ys k' _ hD hI (hS8.sub (.cons _ (.refl _)) (.cons_cons _ (.cons _ (.refl _))))
end
end Mine
end
noncomputable section
open PySem PySem.W PyProof.Rows PySem.Calls PySem.Spec
open PySem.Builtin PySem.Builtin.Str PySem.StrLaws PySem.SeqAt
set_option Elab.async false
set_option maxRecDepth 100000
set_option linter.unusedVariables false
set_option maxHeartbeats 4000000
namespace Mine
local macro_rules | `(tactic| walk_at "lk") => `(tactic| first | with_reducible exact put | with_reducible assumption | ((with_reducible refine' got ?h9 ?n9); (case n9 => decide); (case h9 => walk_at "lk")) | exact rfl)
noncomputable def Fm.ht : Fm → Nat
  | .leaf _ => 0
  | .node l r => l.ht + r.ht + 1
theorem TreeAt.det {Z : Zone} {v : Value} {f : Fm} (h : TreeAt Z v f) : ∀ {f' : Fm}, TreeAt Z v f' → f = f' := by
  induction h with
  | leaf x t => intro f' h'; cases h'; rfl
  | node e h1 h2 i1 i2 =>
    intro f' h'
    cases h' with
    | node e' h1' h2' =>
      rw [e] at e'
      injection e' with e'
      injection e' with _ _ e'
      injection e' with e'
      have q := congrArg Array.toList e'
      simp at q
      obtain ⟨rfl, rfl⟩ := q
      rw [i1 h1', i2 h2']
theorem eq_pair {A : Around} {s : Shared} {a b : Addr} {v1 v2 u1 u2 : Value} {n m : Nat} {p q : Bool} (hab : a ≠ b) (ha : s.heap.get? a = some (W.listOf #[v1, v2] n)) (hb : s.heap.get? b = some (W.listOf #[u1, u2] m)) (hu : A.units < cLine)
    (i1 : EqAt A.in1 s v1 u1 p) (i2 : EqAt A.in1 s v2 u2 q) : EqAt A s (.ref a) (.ref b) (p && q) := by
  have key := EqAt.of_refs hab (RcAt.lists (A := A) (e := fun j => if j = 0 then p else q) (isList_of ha) (isList_of hb) rfl hu (fun j q1 q2 => by
    match j, q1 with
    | 0, _ => exact i1
    | 1, _ => exact i2))
  have e2 : (p && q) = (List.range 2).all (fun j => if j = 0 then p else q) := by cases p <;> cases q <;> rfl
  rw [e2]
  exact key
theorem eq_trees {Z : Zone} {s : Shared} (hz : Z.on s.heap) {v : Value} {f : Fm} (h : TreeAt Z v f) : ∀ {v' : Value} {f' : Fm} {A : Around}, TreeAt Z v' f' → A.units + f.ht < cLine → EqAt A s v v' (decide (f = f')) := by
  induction h with
  | leaf x t =>
    intro v' f' A h' hu
    cases h' with
    | leaf y u =>
      have e : decide (Fm.leaf x = Fm.leaf y) = (x == y) := by
        rw [Bool.eq_iff_iff, beq_iff_eq, decide_eq_true_iff]; constructor
        · intro q; injection q
        · rintro rfl; rfl
      rw [e]; exact EqAt.str_str x t y u
    | @node b _ _ _ l' r' e _ _ =>
      rw [show decide (Fm.leaf x = Fm.node l' r') = false from decide_eq_false (fun q => by cases q)]
      exact EqAt.str_list x t (isList_of (hz _ _ e)) (Nat.lt_of_le_of_lt (Nat.le_add_right _ _) hu)
  | @node a v1 v2 n l r e h1 h2 i1 i2 =>
    intro v' f' A h' hu
    have hu0 : A.units < cLine := Nat.lt_of_le_of_lt (Nat.le_add_right _ _) hu
    cases h' with
    | leaf y u =>
      rw [show decide (Fm.node l r = Fm.leaf y) = false from decide_eq_false (fun q => by cases q)]
      exact EqAt.list_str y u (isList_of (hz _ _ e)) hu0
    | @node b u1 u2 m l' r' e' h1' h2' =>
      by_cases hab : a = b
      · have := (TreeAt.node e h1 h2).det (f' := .node l' r') (by rw [hab]; exact TreeAt.node e' h1' h2')
        rw [decide_eq_true this, hab]
        exact EqAt.same _
      · have hht : (Fm.node l r).ht = l.ht + r.ht + 1 := rfl
        rw [hht] at hu
        have j1 := i1 (A := A.in1) h1' (Nat.lt_of_le_of_lt (show A.units + 1 + l.ht ≤ A.units + (l.ht + r.ht + 1) by omega) hu)
        have j2 := i2 (A := A.in1) h2' (Nat.lt_of_le_of_lt (show A.units + 1 + r.ht ≤ A.units + (l.ht + r.ht + 1) by omega) hu)
        have e2 : decide (Fm.node l r = Fm.node l' r') = (decide (l = l') && decide (r = r')) := by
          rw [Bool.eq_iff_iff, Bool.and_eq_true, decide_eq_true_iff, decide_eq_true_iff, decide_eq_true_iff]
          constructor
          · intro q; injection q with q1 q2; exact ⟨q1, q2⟩
          · rintro ⟨rfl, rfl⟩; rfl
        rw [e2]
        exact eq_pair hab (hz _ _ e) (hz _ _ e') hu0 j1 j2
/-- the value is one of the trees told -/
theorem any_trees {Z : Zone} {A : Around} {s : Shared} {f : Fm} {v : Value} (hz : Z.on s.heap) (hv : TreeAt Z v f) (e : Value → Bool) (he : ∀ y g, TreeAt Z y g → e y = decide (g = f)) :
    ∀ {vs : List Value} {fs : List Fm}, TreesAt Z vs fs → vs.any e = decide (f ∈ fs) := by
  intro vs fs h
  induction h with
  | nil => simp
  | @cons v t vs ts h1 h2 ih =>
    rw [List.any_cons, ih, he _ _ h1, Bool.eq_iff_iff]
    simp only [Bool.or_eq_true, decide_eq_true_iff, List.mem_cons]
    exact ⟨fun q => q.imp Eq.symm id, fun q => q.imp Eq.symm id⟩
theorem TreesAt.mem {Z : Zone} {vs : List Value} {fs : List Fm} (h : TreesAt Z vs fs) : ∀ y ∈ vs, ∃ g ∈ fs, TreeAt Z y g := by
  induction h with
  | nil => intro y hy; cases hy
  | cons h1 h2 ih =>
    intro y hy
    rcases List.mem_cons.mp hy with rfl | hy
    · exact ⟨_, .head _, h1⟩
    · obtain ⟨g, hg, h⟩ := ih y hy; exact ⟨g, .tail _ hg, h⟩
theorem TreesAt.at {Z : Zone} {vs : List Value} {fs : List Fm} (h : TreesAt Z vs fs) : ∀ {i : Nat} {v : Value}, vs[i]? = some v → ∃ f, fs[i]? = some f ∧ TreeAt Z v f := by
  induction h with
  | nil => intro i v h; simp at h
  | cons h1 h2 ih =>
    intro i v h
    cases i with
    | zero => simp at h; subst h; exact ⟨_, rfl, h1⟩
    | succ i => simp at h; exact ih h
theorem TreesAt.at' {Z : Zone} {vs : List Value} {fs : List Fm} (h : TreesAt Z vs fs) : ∀ {i : Nat} {f : Fm}, fs[i]? = some f → ∃ v, vs[i]? = some v ∧ TreeAt Z v f := by
  induction h with
  | nil => intro i v h; simp at h
  | cons h1 h2 ih =>
    intro i v h
    cases i with
    | zero => simp at h; subst h; exact ⟨_, rfl, h1⟩
    | succ i => simp at h; exact ih h
/-- what a value is, told by the zone -/
noncomputable def treeIs (Z : Zone) (f : Fm) (y : Value) : Bool := @decide (TreeAt Z y f) (Classical.propDecidable _)
theorem treeIs_of {Z : Zone} {f g : Fm} {y : Value} (h : TreeAt Z y g) : treeIs Z f y = decide (g = f) := by
  unfold treeIs
  by_cases q : g = f
  · rw [decide_eq_true q]
    exact @decide_eq_true _ (Classical.propDecidable _) (q ▸ h)
  · rw [decide_eq_false q]
    exact @decide_eq_false _ (Classical.propDecidable _) (fun h' => q (h.det h'))
section
variable {w : World} {c : Ctx0} {G : Array GenState} {Z : Zone} {ns : List (Addr × (Str → Option Value))} {l : List (Addr × Obj)} {s : Shared} {A : Around} {E Q : Value → Shared → Prop}
theorem notin_trees {K : Addr} {vs : List Value} {fs : List Fm} {n : Nat} {v : Value} {f : Fm} (hz : Z.on s.heap) (hK : s.heap.get? K = some (W.listOf vs.toArray n)) (hv : TreeAt Z v f) (hvs : TreesAt Z vs fs) (hu : ∀ g ∈ fs, A.units + 1 + g.ht < cLine)
    (hq : Q (.bool (!decide (f ∈ fs))) s) : wpAny (model PG w) A (compareOp .NotIn v (.ref K)) Q E s := by
  refine notIn_listAt (treeIs Z f) (isList_of hK) (fun y hy => ?_) ?_
  · obtain ⟨g, hg, h⟩ := hvs.mem y (by simpa using hy)
    rw [treeIs_of h]
    exact eq_trees hz h hv (hu g hg)
  · rw [show vs.toArray.any (treeIs Z f) = vs.any (treeIs Z f) from by simp, any_trees (A := A) hz hv _ (fun y g h => treeIs_of h) hvs]
    exact hq
end
/-! ### small steps of the search -/
noncomputable def num (j : Nat) : Str := Str.ofString (toString (j : Int))
noncomputable def names6 : List Str := ["a", "ab", "b", "A", "aB", "B"]
theorem finds_name {w : World} : ∀ x ∈ names6, Finds0 w 48 x := by
  intro x hx
  simp only [names6, List.mem_cons, List.not_mem_nil, or_false] at hx
  rcases hx with rfl | rfl | rfl | rfl | rfl | rfl
  · exact fun t => by kernel_rfl
  · exact fun t => by kernel_rfl
  · exact fun t => by kernel_rfl
  · exact fun t => by kernel_rfl
  · exact fun t => by kernel_rfl
  · exact fun t => by kernel_rfl
theorem finds_num {w : World} : ∀ j, j < 8 → Finds0 w 53 (num j)
  | 0, _ => fun t => by kernel_rfl
  | 1, _ => fun t => by kernel_rfl
  | 2, _ => fun t => by kernel_rfl
  | 3, _ => fun t => by kernel_rfl
  | 4, _ => fun t => by kernel_rfl
  | 5, _ => fun t => by kernel_rfl
  | 6, _ => fun t => by kernel_rfl
  | 7, _ => fun t => by kernel_rfl
theorem num_inj : ∀ i < 8, ∀ j < 8, num i = num j → i = j := by decide +kernel
theorem num_len : ∀ j < 8, (num j).length ≤ 1000 := by decide +kernel
section
variable {w : World} {c : Ctx0} {G : Array GenState} {Z : Zone} {ns : List (Addr × (Str → Option Value))} {l : List (Addr × Obj)} {s : Shared} {A : Around} {E Q : Value → Shared → Prop} {env : Env}
theorem minus_one {k} {p pos : Pos} (h : S w c G Z ns l s) (hq : ∀ t s', S w c G Z ns l s' → Q (.int (-1) t) s') : wpAny (model PG w) A (eval (.UnaryOp .USub (.Constant (.int 1) k p) pos) env) Q E s := by
  refine UnaryOp_ (con_int h fun t s2 hS2 => ?_)
  refine neg_int ?_
  exact hq _ _ (hS2.toks _)
theorem isStr_any {ys : List Value} {xs : List Str} (h : StrsV ys xs) (k : Str) (e : Value → Bool) (he : ∀ y u, e (.str y u) = (y == k)) : ys.any e = decide (k ∈ xs) := by
  induction h with
  | nil => simp
  | @cons x t vs xs h ih =>
    rw [List.any_cons, ih, he, Bool.eq_iff_iff]
    simp only [Bool.or_eq_true, beq_iff_eq, decide_eq_true_iff, List.mem_cons]
    exact ⟨fun q => q.imp Eq.symm id, fun q => q.imp Eq.symm id⟩
noncomputable def strIs (k : Str) : Value → Bool
  | .str y _ => y == k
  | _ => false
theorem StrsV.mem {vs : List Value} {xs : List Str} (h : StrsV vs xs) : ∀ y ∈ vs, ∃ x t, y = .str x t ∧ x ∈ xs := by
  induction h with
  | nil => intro y hy; cases hy
  | cons x t h2 ih =>
    intro y hy
    rcases List.mem_cons.mp hy with rfl | hy
    · exact ⟨_, _, rfl, .head _⟩
    · obtain ⟨g, u, e, hg⟩ := ih y hy; exact ⟨g, u, e, .tail _ hg⟩
theorem notin_strs {D : Addr} {ys : List Value} {xs : List Str} {n : Nat} {k : Str} {t : Tok} (hD : s.heap.get? D = some (W.listOf ys.toArray n)) (h : StrsV ys xs) (hq : Q (.bool (!decide (k ∈ xs))) s) : wpAny (model PG w) A (compareOp .NotIn (.str k t) (.ref D)) Q E s := by
  refine notIn_listAt (strIs k) (isList_of hD) (fun y hy => ?_) ?_
  · obtain ⟨x, u, rfl, _⟩ := h.mem y (by simpa using hy)
    exact EqAt.str_str x u k t
  · rw [show ys.toArray.any (strIs k) = ys.any (strIs k) from by simp, isStr_any h k _ fun _ _ => rfl]
    exact hq
theorem in_strs {D : Addr} {ys : List Value} {xs : List Str} {n : Nat} {k : Str} {t : Tok} (hD : s.heap.get? D = some (W.listOf ys.toArray n)) (h : StrsV ys xs) (hq : Q (.bool (decide (k ∈ xs))) s) : wpAny (model PG w) A (compareOp .In (.str k t) (.ref D)) Q E s := by
  refine in_listAt (strIs k) (isList_of hD) (fun y hy => ?_) ?_
  · obtain ⟨x, u, rfl, _⟩ := h.mem y (by simpa using hy)
    exact EqAt.str_str x u k t
  · rw [show ys.toArray.any (strIs k) = ys.any (strIs k) from by simp, isStr_any h k _ fun _ _ => rfl]
    exact hq
/-- l[-1] -/
theorem item_neg {value slice : PySem.Expr} {a : Addr} {vi : List Value} {v : Value} {n : Nat} {u : Tok} (ha : s.heap.get? a = some (W.listOf (vi ++ [v]).toArray n)) (h : Q v s)
    (hs : subscripted slice false (.ref a) (.int (-1) u) = operate [.ref a, .int (-1) u] (getItem (.ref a) (.int (-1) u)) := by kernel_rfl) :
    wpAny (model PG w) A (subscriptTail value slice (.ref a) (.int (-1) u)) Q E s :=
  tail_any (isList_of ha).typeIs slot_list_getitem.lookup (wpAny_getItem_list_neg (isList_of ha) (by decide) (by simp; omega) (by decide) (by
    have e : ((-1 : Int) + ((vi ++ [v]).toArray.size : Int)).toNat = vi.length := by simp; omega
    rw [e]; simp) h) hs
/-- known.index(one) -/
theorem index_trees {K : Addr} {vs : List Value} {fs : List Fm} {n : Nat} {v : Value} {f : Fm} (h : S w c G Z ns l s) (hK : s.heap.get? K = some (W.listOf vs.toArray n)) (hv : TreeAt Z v f) (hvs : TreesAt Z vs fs) (hf : f ∈ fs) (hl : fs.length ≤ 1000) (hu : ∀ g ∈ fs, A.units + 2 + g.ht < cLine)
    (hq : ∀ t s', S w c G Z ns l s' → Q (.int (fs.idxOf f : Nat) t) s') : wpAny (model PG w) A (call (.builtin "list.index") [.ref K, v]) Q E s := by
  have hlt : fs.idxOf f < fs.length := List.idxOf_lt_length_iff.mpr hf
  have hlt' : fs.idxOf f < vs.toArray.size := by rw [List.size_toArray, hvs.length]; exact hlt
  have at' : ∀ m (hm : m < vs.toArray.size), ∃ g, fs[m]? = some g ∧ TreeAt Z vs.toArray[m] g := fun m hm => by
    have : vs[m]? = some vs.toArray[m] := by simp at hm ⊢; 
    exact hvs.at this
  refine call_meets F.slot_list_index (isList_of hK).typeIs F.entry_list_index (F.args_list_index_2 _ _) (list_indexAt K vs.toArray n none #[] v (treeIs Z f) (fs.idxOf f) hlt' (by omega) ?_ ?_) ⟨hK, ?_, ?_⟩
  · obtain ⟨g, hg, ht⟩ := at' _ hlt'
    rw [treeIs_of ht]
    rw [List.getElem?_eq_getElem hlt] at hg
    have : fs[fs.idxOf f] = f := List.getElem_idxOf hlt
    rw [this] at hg
    injection hg with hg
    exact decide_eq_true hg.symm
  · intro m hm hmj
    obtain ⟨g, hg, ht⟩ := at' _ hm
    rw [treeIs_of ht]
    refine decide_eq_false fun e => ?_
    subst e
    have hm' : m < fs.length := by rw [← hvs.length]; simpa using hm
    rw [List.getElem?_eq_getElem hm'] at hg
    injection hg with hg
    have q := List.not_of_lt_findIdx (p := (· == g)) (xs := fs) (i := m) hmj
    have q' : (fs[m] == g) = true := by rw [hg]; exact beq_self_eq_true g
    rw [q'] at q; cases q
  · intro y hy
    obtain ⟨g, hg, ht⟩ := hvs.mem y (by simpa using hy)
    rw [treeIs_of ht]
    exact eq_trees h.z ht hv (show A.units + 1 + g.ht < cLine by have := hu g hg; omega)
  · exact hq _ _ (h.toks _)
end
noncomputable def Fm.last : Fm → Str
  | .leaf x => x
  | .node _ r => r.last
noncomputable def Fm.lefts : Fm → List Fm
  | .leaf _ => []
  | .node l r => l :: r.lefts
theorem Fm.spread_eq : ∀ f : Fm, f.spread = f.lefts ++ [.leaf f.last]
  | .leaf _ => rfl
  | .node _ r => by rw [spread, r.spread_eq]; rfl
noncomputable def addOne (Γ : List Fm) (f : Fm) : List Fm := if f ∈ Γ then Γ else Γ ++ [f]
noncomputable def ents (fs Γ : List Fm) : List (Str × Str) := Γ.map fun f => (f.last, num (fs.idxOf f))
/-- all left sides that may come -/
structure Uni (U : List Fm) : Prop where
  len : U.length ≤ 5
  last : ∀ f ∈ U, f.last ∈ names6
  dep : ∀ f ∈ U, f.depth ≤ 5 ∧ f.ht ≤ 5
  sub : ∀ f ∈ U, ∀ g ∈ f.lefts, g ∈ U
theorem nodup_len {α : Type} [DecidableEq α] : ∀ {l U : List α}, l.Nodup → (∀ x ∈ l, x ∈ U) → l.length ≤ U.length
  | [], U, _, _ => Nat.zero_le _
  | x :: l, U, h, hs => by
    have h' := List.nodup_cons.mp h
    have hx := hs x (.head _)
    have : l.length ≤ (U.erase x).length := nodup_len h'.2 fun y hy => by
      refine (List.mem_erase_of_ne ?_).mpr (hs y (.tail _ hy))
      rintro rfl; exact h'.1 hy
    rw [List.length_erase_of_mem hx] at this
    have hp := List.length_pos_of_mem hx
    rw [List.length_cons]; omega
theorem addOne_mem {Γ : List Fm} {f : Fm} : f ∈ addOne Γ f := by
  unfold addOne
  by_cases h : f ∈ Γ
  · rw [if_pos h]; exact h
  · rw [if_neg h]; exact List.mem_append_right _ (.head _)
theorem addOne_sub {Γ : List Fm} {f g : Fm} (h : g ∈ Γ) : g ∈ addOne Γ f := by
  unfold addOne
  by_cases h' : f ∈ Γ
  · rw [if_pos h']; exact h
  · rw [if_neg h']; exact List.mem_append_left _ h
theorem addOne_of {Γ : List Fm} {f g : Fm} (h : g ∈ addOne Γ f) : g ∈ Γ ∨ g = f := by
  unfold addOne at h
  by_cases h' : f ∈ Γ
  · rw [if_pos h'] at h; exact .inl h
  · rw [if_neg h'] at h
    rcases List.mem_append.mp h with q | q
    · exact .inl q
    · exact .inr (List.mem_singleton.mp q)
theorem addOne_nd {Γ : List Fm} {f : Fm} (h : Γ.Nodup) : (addOne Γ f).Nodup := by
  unfold addOne
  by_cases h' : f ∈ Γ
  · rw [if_pos h']; exact h
  · rw [if_neg h']
    refine List.nodup_append.mpr ⟨h, by simp, fun a ha b hb => ?_⟩
    rw [List.mem_singleton.mp hb]
    rintro rfl; exact h' ha
theorem idx_addOne {fs : List Fm} {f g : Fm} (h : g ∈ fs) : (addOne fs f).idxOf g = fs.idxOf g := by
  unfold addOne
  by_cases h' : f ∈ fs
  · rw [if_pos h']
  · rw [if_neg h', List.idxOf_append, if_pos h]
theorem ents_addOne {fs Γ : List Fm} {f : Fm} (h : ∀ g ∈ Γ, g ∈ fs) : ents (addOne fs f) Γ = ents fs Γ :=
  List.map_congr_left fun g hg => by rw [idx_addOne (h g hg)]
theorem ents_mem {fs Γ : List Fm} {f : Fm} (hl : fs.length ≤ 7) (hf : f ∈ fs) (h : ∀ g ∈ Γ, g ∈ fs) : num (fs.idxOf f) ∈ (ents fs Γ).map (·.2) ↔ f ∈ Γ := by
  constructor
  · intro q
    obtain ⟨p, hp, e⟩ := List.mem_map.mp q
    obtain ⟨g, hg, rfl⟩ := List.mem_map.mp hp
    have h1 : fs.idxOf f < fs.length := List.idxOf_lt_length_iff.mpr hf
    have h2 : fs.idxOf g < fs.length := List.idxOf_lt_length_iff.mpr (h g hg)
    have e' : fs.idxOf g = fs.idxOf f := num_inj _ (by omega) _ (by omega) e
    have g1 : fs[fs.idxOf f] = f := List.getElem_idxOf h1
    have g2 : fs[fs.idxOf g] = g := List.getElem_idxOf h2
    have : f = g := by rw [← g1, ← g2]; simp only [e']
    exact this ▸ hg
  · intro q
    exact List.mem_map.mpr ⟨(f.last, num (fs.idxOf f)), List.mem_map.mpr ⟨f, q, rfl⟩, rfl⟩
theorem TreesAt.snoc_inv {Z : Zone} {x : Str} : ∀ {fs : List Fm} {vs : List Value}, TreesAt Z vs (fs ++ [.leaf x]) → ∃ vi t, vs = vi ++ [.str x t] ∧ TreesAt Z vi fs
  | [], _, .cons h .nil => by cases h with | leaf x t => exact ⟨[], t, rfl, .nil⟩
  | f :: fs, _, .cons h r => by
    obtain ⟨vi, t, rfl, h'⟩ := TreesAt.snoc_inv r
    exact ⟨_, t, rfl, .cons h h'⟩
noncomputable abbrev prEnv (w : World) (L : Addr) : Env := callEnvC (fdAt w.params 239) L 239
noncomputable def prFor (P : Params) : List Stmt := match bodyAt P 239 with
  | _ :: _ :: .For _ _ b _ _ :: _ => b
  | _ => []
section
variable {w : World} {c : Ctx0} {G : Array GenState} {Z : Zone} {ns : List (Addr × (Str → Option Value))} {l : List (Addr × Obj)} {s : Shared} {A : Around} {E : Value → Shared → Prop}
/-- str(known.index(one)) -/
theorem str_index {env : Env} {m : Str → Option Value} {K : Addr} {kvs : List Value} {kn : Nat} {fs U : List Fm} {f : Fm} {v : Value} {np ap pos pos2 p3 p4 : Pos} {Q : Value → Shared → Prop} (hU : Uni U) (hfU : ∀ g ∈ fs, g ∈ U) (hlen : fs.length ≤ 5) (hr : Rm A 20)
    (hS : S w c G Z ((env.locals, m) :: ns) l s) (hK : (K, W.listOf kvs.toArray kn) ∈ l) (hm1 : m (Str.ofString "known") = some (.ref K)) (hm2 : m (Str.ofString "one") = some v) (hv : TreeAt Z v f) (hvs : TreesAt Z kvs fs) (hf : f ∈ fs)
    (hq : ∀ t s', S w c G Z ((env.locals, m) :: ns) l s' → Q (.str (num (fs.idxOf f)) t) s')
    (hk : env.scope.kind = .function := by kernel_rfl) (hl1 : env.kindOf (Str.ofString "known") = some .local := by kernel_rfl) (hl2 : env.kindOf (Str.ofString "one") = some .local := by kernel_rfl)
    (hg1 : env.kindOf (Str.ofString "str") = some .globalImplicit := by kernel_rfl) (hg2 : env.globals = mainGlobals := by kernel_rfl) (hg3 : env.builtins = builtinsNs := by kernel_rfl)
    (hbase : attributeBase (.Name (Str.ofString "known") p3) (Str.ofString "index") env (eval (.Name (Str.ofString "known") p3) env) = eval (.Name (Str.ofString "known") p3) env := by kernel_rfl)
    (hs : starEach [.Name (Str.ofString "one") p4] env = [(false, eval (.Name (Str.ofString "one") p4) env)] := by kernel_rfl) (hline : (ap.endLine == pos2.line) = true := by kernel_rfl)
    (he : starEach [PySem.Expr.Call (.Attribute (.Name (Str.ofString "known") p3) (Str.ofString "index") ap) [.Name (Str.ofString "one") p4] [] pos2] env = (false, eval (PySem.Expr.Call (.Attribute (.Name (Str.ofString "known") p3) (Str.ofString "index") ap) [.Name (Str.ofString "one") p4] [] pos2) env) :: starEach [] env := by kernel_rfl)
    (he1 : starEach [PySem.Expr.Call (.Attribute (.Name (Str.ofString "known") p3) (Str.ofString "index") ap) [.Name (Str.ofString "one") p4] [] pos2] env = [(false, eval (PySem.Expr.Call (.Attribute (.Name (Str.ofString "known") p3) (Str.ofString "index") ap) [.Name (Str.ofString "one") p4] [] pos2) env)] := by kernel_rfl)
    (hp : (backTo pos (starEach [] env)).any (·.1) = false := by kernel_rfl) :
    wpAny (model PG w) A (eval (.Call (.Name (Str.ofString "str") np) [PySem.Expr.Call (.Attribute (.Name (Str.ofString "known") p3) (Str.ofString "index") ap) [.Name (Str.ofString "one") p4] [] pos2] [] pos) env) Q E s := by
  refine callT (T := "str") ?_ he hp
  refine is_ldb hS.toZ0 (by kernel_rfl) (by kernel_rfl) ?_ hk hg1 hg2 hg3
  refine args_one ?_ he1
  with_reducible refine callO F.plainAttrs_list F.slot_list_index F.type_list_index ?_ hbase hs hline
  have hu := hr.ult
  refine ld hS hm1 ⟨(isList_of (hS.own' hK)).typeIs, (fun a e => by cases e; exact ⟨_, hS.own' hK, rfl⟩), ?_⟩ hk hl1
  refine ld hS hm2 ?_ hk hl2
  refine index_trees hS (hS.own' hK) hv hvs hf (by omega) (fun g hg => by have := (hU.dep g (hfU g hg)).2; omega) fun t s2 hS2 => ?_
  have hi : fs.idxOf f < fs.length := List.idxOf_lt_length_iff.mpr hf
  refine P.str_of_int (shown (N := 2 ^ 1920) (by omega) (by omega) (by decide)) ?_
  exact hq _ _ (hS2.toks _)
end
section
variable {w : World} {c : Ctx0} {G : Array GenState} {Z : Zone} {ns : List (Addr × (Str → Option Value))} {l : List (Addr × Obj)} {s : Shared} {A : Around} {E : Value → Shared → Prop}
/-- one turn of the loop that lays the left sides -/
theorem add_turn {L K hl x dx : Addr} {tk : Tok} {m : Str → Option Value} {kvs tvs : List Value} {kn tn : Nat} {fs Γ U : List Fm} {f : Fm} {v : Value} {Q : Flow → Shared → Prop} {body : List Stmt} (hbd : body = prFor w.params) (hU : Uni U) (hfU : ∀ g ∈ fs, g ∈ U) (hfn : fs.Nodup) (hΓ : ∀ g ∈ Γ, g ∈ fs) (hΓn : Γ.Nodup) (hfu : f ∈ U)
    (hr : Rm A 60) (hT : c.T = []) (hS : S w c G Z (((prEnv w L).locals, m) :: ns) ((K, W.listOf kvs.toArray kn) :: (hl, W.listOf tvs.toArray tn) :: (x, hdI dx) :: (dx, hdD w tk hl) :: l) s)
    (hm1 : m (Str.ofString "known") = some (.ref K)) (hm2 : m (Str.ofString "one") = some v) (hm3 : m (Str.ofString "table") = some (.ref x)) (hv : TreeAt Z v f) (hvs : TreesAt Z kvs fs) (he : EntsAt Z tvs (ents fs Γ))
    (k : ∀ Z' kvs' kn' tvs' tn' s', Z.le Z' → TreesAt Z' kvs' (addOne fs f) → EntsAt Z' tvs' (ents (addOne fs f) (addOne Γ f)) →
      S w c G Z' (((prEnv w L).locals, m) :: ns) ((K, W.listOf kvs'.toArray kn') :: (hl, W.listOf tvs'.toArray tn') :: (x, hdI dx) :: (dx, hdD w tk hl) :: l) s' → Q .next s') : wpAny (model PG w) A (execs body (prEnv w L)) Q E s := by
  subst hbd
  have hlen : fs.length ≤ 5 := Nat.le_trans (nodup_len hfn hfU) hU.len
  have hfs' : ∀ g ∈ addOne fs f, g ∈ U := fun g hg => (addOne_of hg).elim (hfU g) (fun e => e ▸ hfu)
  have hlen' : (addOne fs f).length ≤ 5 := Nat.le_trans (nodup_len (addOne_nd hfn) hfs') hU.len
  have hu := hr.ult
  have key : wpAny (model PG w) A (exec (match prFor w.params with | a :: _ => a | _ => .Pass ⟨0,0,0,0⟩) (prEnv w L)) (fun fl s' => fl = .next ∧ ∃ kvs' kn', TreesAt Z kvs' (addOne fs f) ∧ S w c G Z (((prEnv w L).locals, m) :: ns) ((K, W.listOf kvs'.toArray kn') :: (hl, W.listOf tvs.toArray tn) :: (x, hdI dx) :: (dx, hdD w tk hl) :: l) s') E s := by
    refine wpAny_If (wpAny_isTrue_Compare1 (ld hS hm2 (ld hS hm1 ?_)))
    refine notin_trees hS.z (hS.own' (.head _)) hv hvs (fun g hg => by have := (hU.dep g (hfU g hg)).2; omega) (wpAny_truthy_bool ?_)
    by_cases hin : f ∈ fs
    · rw [decide_eq_true hin]
      refine wpAny_execs_nil ⟨rfl, kvs, kn, ?_, hS⟩
      unfold addOne; rw [if_pos hin]; exact hvs
    · rw [decide_eq_false hin]
      refine wpAny_execs_cons (wpAny_Expr ?_)
      with_reducible refine append_own ?_
      refine ld hS hm1 ⟨K, kvs.toArray, kn, rfl, hS.own' (.head _), ?_⟩
      refine ld hS hm2 ⟨_, _, _, _, _, _, hS, .head, ?_, fun s3 hS3 => ?_⟩
      · rw [List.size_toArray, hvs.length, sizeLine_eq]; omega
      rw [List.push_toArray] at hS3
      refine wpAny_execs_nil ⟨rfl, kvs ++ [v], kn + 1, ?_, hS3⟩
      unfold addOne; rw [if_neg hin]; exact hvs.append (.cons hv .nil)
  refine wpAny_execs_cons (wpAny_mono key (fun fl s2 h2 => ?_) fun _ _ x => x)
  obtain ⟨rfl, kvs', kn', hvs', hS2⟩ := h2
  have hin' : f ∈ addOne fs f := addOne_mem
  have hΓ' : ∀ g ∈ Γ, g ∈ addOne fs f := fun g hg => addOne_sub (hΓ g hg)
  rw [← ents_addOne (f := f) hΓ] at he
  have hΓlen : Γ.length ≤ 5 := Nat.le_trans (nodup_len hΓn (fun g hg => hfU g (hΓ g hg))) hU.len
  have htl : tvs.length ≤ 5 := by rw [he.length]; unfold ents; rw [List.length_map]; exact hΓlen
  refine wpAny_execs_cons (wpAny_If (wpAny_isTrue_Compare1 ?_))
  with_reducible refine str_index hU hfs' hlen' (hr.le (by omega)) hS2 (List.Mem.head _) hm1 hm2 hv hvs' hin' ?_
  intro t3 s3 hS3
  with_reducible refine callM (f := 139) ?_
  refine ld hS3 hm3 ⟨x, dx, hl, tk, rfl, hS3.kin, hS3.own' (.tail _ (.tail _ (.head _))), hS3.own' (.tail _ (.tail _ (.tail _ (.head _)))), ?_⟩
  with_reducible refine argsM0 (by kernel_rfl) ⟨hS3.kin, ?_⟩
  refine values_ok (hr.le (by omega)) hS3 (fun a ha => by rw [hT] at ha; cases ha) he (by omega) (.tail _ (.tail _ (.head _))) (.tail _ (.tail _ (.tail _ (.head _)))) (.tail _ (.head _)) fun D ys dn s4 hDc hys hS4 => ?_
  refine notin_strs (hS4.own' (.head _)) hys (wpAny_truthy_bool ?_)
  rw [show decide (num (List.idxOf f (addOne fs f)) ∈ List.map (fun x => x.2) (ents (addOne fs f) Γ)) = decide (f ∈ Γ) from by
    rw [Bool.eq_iff_iff, decide_eq_true_iff, decide_eq_true_iff]; exact ents_mem (by omega) hin' hΓ']
  have hS5 := hS4.sub (l' := (K, W.listOf kvs'.toArray kn') :: (hl, W.listOf tvs.toArray tn) :: (x, hdI dx) :: (dx, hdD w tk hl) :: l) (List.Sublist.refl _) (.cons _ (.refl _))
  by_cases hfΓ : f ∈ Γ
  · rw [decide_eq_true hfΓ]
    refine wpAny_execs_nil (wpAny_execs_nil ?_)
    have e : addOne Γ f = Γ := by unfold addOne; rw [if_pos hfΓ]
    exact k Z kvs' kn' tvs tn _ (.refl Z) hvs' (by rw [e]; exact he) hS5
  · rw [decide_eq_false hfΓ]
    have e : addOne Γ f = Γ ++ [f] := by unfold addOne; rw [if_neg hfΓ]
    refine wpAny_execs_cons (wpAny_Expr ?_)
    with_reducible refine callM (f := 179) ?_
    refine ld hS5 hm3 ⟨x, dx, hl, tk, rfl, hS5.kin, hS5.own' (.tail _ (.tail _ (.head _))), hS5.own' (.tail _ (.tail _ (.tail _ (.head _)))), ?_⟩
    with_reducible refine argsM (by kernel_rfl) ?_
    refine args_cons ?_
    refine Subscript_ ?_
    with_reducible refine callF (f := 234) (by kernel_rfl) ?_
    refine is_ldg hS5.toZ0 (by kernel_rfl) (args_one (ld hS5 hm2 ⟨hS5.toZ0.kin, ?_⟩))
    have hd := (hU.dep f hfu).1
    refine spread_ok (hr.le (by omega)) hS5.toZ0 hv (by omega) fun a vs n s6 Z' hZ6 ha hvs6 => ?_
    have hS6 := hS5.back hZ6 (fun a ha => by rw [hT] at ha; cases ha)
    have hle : Z.le Z' := hZ6.zle
    rw [f.spread_eq] at hvs6
    obtain ⟨vi, tl, rfl, _⟩ := hvs6.snoc_inv
    refine minus_one hS6 fun t7 s7 hS7 => ?_
    refine item_neg (hS7.z _ _ ha) ?_
    refine args_one ?_
    with_reducible refine str_index hU hfs' hlen' (hr.le (by omega)) hS7 (List.Mem.head _) hm1 hm2 (hv.mono hle) (hvs'.mono hle) hin' ?_
    intro t8 s8 hS8
    refine ⟨hS8.kin, ?_⟩
    have hname := hU.last f hfu
    have hidx : (addOne fs f).idxOf f < 8 := by have := List.idxOf_lt_length_iff.mpr hin'; omega
    refine add_header_ok (l' := fun T => (K, W.listOf kvs'.toArray kn') :: (hl, W.listOf (tvs ++ [Value.ref T]).toArray (tn + 1)) :: (x, hdI dx) :: (dx, hdD w tk hl) :: l) (hr.le (by omega)) hS8 (fun a ha => by rw [hT] at ha; cases ha) (by omega) (.tail _ (.tail _ (.head _))) (.tail _ (.tail _ (.tail _ (.head _)))) (fun T => .tail .head) (finds_name _ hname) (finds_num _ hidx) (num_len _ hidx) fun T tb s9 hTc hS9 => ?_
    have hzT := hS9.zo T (List.mem_append_right _ (.head _))
    have hS10 := hS9.freeze hTc
    have hle' : Z.le (Z'.put T _) := hle.trans (Zone.put_le (tupObj [.str f.last tl, .str (num ((addOne fs f).idxOf f)) tb]) hzT)
    refine wpAny_execs_nil (wpAny_execs_nil ?_)
    refine k _ kvs' kn' _ (tn + 1) _ hle' (hvs'.mono hle') ?_ hS10
    rw [e]
    have : ents (addOne fs f) (Γ ++ [f]) = ents (addOne fs f) Γ ++ [(f.last, num ((addOne fs f).idxOf f))] := by unfold ents; rw [List.map_append]; rfl
    rw [this]
    exact (he.mono hle').snoc Zone.put_self
end
/-! ### states of the search, by their numerals -/
theorem lt_num : ∀ i < 8, ∀ j < 8, ltCps (num j).cps.toList (num i).cps.toList = decide (j < i) := by decide +kernel
theorem rising_num : ∀ (js : List Nat) (p : Nat), p < 8 → (∀ j ∈ js, j < 8) → risingS (num p) (js.map num) = true → (p :: js).Pairwise (· ≤ ·)
  | [], p, _, _, _ => by simp
  | j :: js, p, hp, hj, h => by
    have h' : (!ltCps (num j).cps.toList (num p).cps.toList && risingS (num j) (js.map num)) = true := h
    rw [Bool.and_eq_true, lt_num p hp j (hj j (.head _))] at h'
    have h1 : p ≤ j := by have := h'.1; simp at this; exact this
    have ih := rising_num js j (hj j (.head _)) (fun i hi => hj i (.tail _ hi)) h'.2
    refine List.pairwise_cons.mpr ⟨fun y hy => ?_, ih⟩
    rcases List.mem_cons.mp hy with rfl | hy
    · exact h1
    · exact Nat.le_trans h1 (List.rel_of_pairwise_cons ih hy)
theorem sorted_num {js : List Nat} (hj : ∀ j ∈ js, j < 8) (h : sortedS (js.map num) = true) : js.Pairwise (· ≤ ·) := by
  cases js with
  | nil => exact .nil
  | cons p js => exact rising_num js p (hj p (.head _)) (fun i hi => hj i (.tail _ hi)) h
theorem unmap_num : ∀ {xs : List Str}, (∀ x ∈ xs, ∃ j < 8, x = num j) → ∃ js : List Nat, xs = js.map num ∧ ∀ j ∈ js, j < 8
  | [], _ => ⟨[], rfl, fun _ h => nomatch h⟩
  | x :: xs, h => by
    obtain ⟨j, hj, rfl⟩ := h x (.head _)
    obtain ⟨js, rfl, hjs⟩ := unmap_num (xs := xs) fun y hy => h y (.tail _ hy)
    exact ⟨j :: js, rfl, fun i hi => (List.mem_cons.mp hi).elim (fun e => e ▸ hj) (hjs i)⟩
theorem sorted_uniq {xs ys : List Str} (hx : ∀ x ∈ xs, ∃ j < 8, x = num j) (p : xs.Perm ys) (h1 : sortedS xs = true) (h2 : sortedS ys = true) : xs = ys := by
  obtain ⟨js, rfl, hj⟩ := unmap_num hx
  obtain ⟨ks, rfl, hk⟩ := unmap_num (xs := ys) fun y hy => hx y (p.mem_iff.mpr hy)
  have a1 := sorted_num hj h1
  have a2 := sorted_num hk h2
  have q : js.Perm ks := by
    rw [List.perm_iff_count] at p ⊢
    intro a
    by_cases ha : a < 8
    · have := p (num a)
      have cnt : ∀ l : List Nat, (∀ j ∈ l, j < 8) → List.count (num a) (l.map num) = List.count a l := by
        intro l hl
        induction l with
        | nil => rfl
        | cons b l ih =>
          rw [List.map_cons, List.count_cons, List.count_cons, ih fun j hj => hl j (.tail _ hj)]
          congr 1
          by_cases e : b = a
          · subst e; simp
          · have : num b ≠ num a := fun q => e (num_inj b (hl b (.head _)) a ha q)
            simp [e, this]
      rw [cnt js hj, cnt ks hk] at this
      exact this
    · have z : ∀ l : List Nat, (∀ j ∈ l, j < 8) → List.count a l = 0 := fun l hl => List.count_eq_zero.mpr fun h => ha (hl a h)
      rw [z js hj, z ks hk]
  rw [List.Perm.eq_of_pairwise (le := (· ≤ ·)) (fun a b _ _ => Nat.le_antisymm) a1 a2 q]
noncomputable def sameSet (a b : List Fm) : Bool := a.all (fun f => decide (f ∈ b)) && b.all (fun f => decide (f ∈ a))
noncomputable def nums (fs Γ : List Fm) : List Str := Γ.map fun f => num (fs.idxOf f)
theorem nums_all {fs Γ : List Fm} (hl : fs.length ≤ 5) (h : ∀ g ∈ Γ, g ∈ fs) : ∀ x ∈ nums fs Γ, ∃ j < 8, x = num j := fun x hx => by
  obtain ⟨g, hg, rfl⟩ := List.mem_map.mp hx
  exact ⟨_, by have := List.idxOf_lt_length_iff.mpr (h g hg); omega, rfl⟩
theorem nums_mem {fs Γ : List Fm} {f : Fm} (hl : fs.length ≤ 5) (hf : f ∈ fs) (h : ∀ g ∈ Γ, g ∈ fs) : num (fs.idxOf f) ∈ nums fs Γ ↔ f ∈ Γ := by
  have := ents_mem (by omega) hf h
  unfold ents at this
  rw [List.map_map] at this
  exact this
theorem nums_eq {fs Γ Δ : List Fm} {xs ys : List Str} (hl : fs.length ≤ 5) (h1 : ∀ g ∈ Γ, g ∈ fs) (h2 : ∀ g ∈ Δ, g ∈ fs) (n1 : Γ.Nodup) (n2 : Δ.Nodup) (p1 : xs.Perm (nums fs Γ)) (p2 : ys.Perm (nums fs Δ)) (s1 : sortedS xs = true) (s2 : sortedS ys = true) :
    decide (xs = ys) = sameSet Γ Δ := by
  rw [Bool.eq_iff_iff, decide_eq_true_iff]
  unfold sameSet
  rw [Bool.and_eq_true, List.all_eq_true, List.all_eq_true]
  simp only [decide_eq_true_iff]
  constructor
  · rintro rfl
    have p : (nums fs Γ).Perm (nums fs Δ) := p1.symm.trans p2
    refine ⟨fun f hf => ?_, fun f hf => ?_⟩
    · exact (nums_mem hl (h1 f hf) h2).mp (p.mem_iff.mp ((nums_mem hl (h1 f hf) h1).mpr hf))
    · exact (nums_mem hl (h2 f hf) h1).mp (p.mem_iff.mpr ((nums_mem hl (h2 f hf) h2).mpr hf))
  · rintro ⟨a, b⟩
    have p : Γ.Perm Δ := by
      rw [List.perm_iff_count]
      intro f
      rw [n1.count, n2.count]
      by_cases hf : f ∈ Γ
      · rw [if_pos hf, if_pos (a f hf)]
      · rw [if_neg hf, if_neg fun q => hf (b f q)]
    have p' : (nums fs Γ).Perm (nums fs Δ) := p.map _
    exact sorted_uniq (fun x hx => nums_all hl h1 x (p1.mem_iff.mp hx)) (p1.trans (p'.trans p2.symm)) s1 s2
/-! ### the search -/
noncomputable def low (x : Str) : Str := Txt.lower x
noncomputable def seen (Γ : List Fm) (g : Str) (way : List (List Fm × Str)) : Bool := way.any fun p => sameSet p.1 Γ && (p.2 == g)
noncomputable def sr : Nat → Fm → List Fm → List (List Fm × Str) → Bool
  | 0, _, _, _ => false
  | n + 1, t, Γ, way =>
    let Γ' := t.lefts.foldl addOne Γ
    let g := low t.last
    !seen Γ' g way && (Γ'.filter fun f => low f.last == g).any fun f => f.lefts.all fun o => sr n o Γ' (way ++ [(Γ', g)])
theorem StrsV.det {vs : List Value} {xs : List Str} (h : StrsV vs xs) : ∀ {ys : List Str}, StrsV vs ys → xs = ys := by
  induction h with
  | nil => intro ys h; cases h; rfl
  | cons x t _ ih => intro ys h; cases h with | cons _ _ h => rw [ih h]
theorem all_range_eq : ∀ (xs ys : List Str), xs.length = ys.length → (List.range xs.length).all (fun j => xs.getD j Str.empty == ys.getD j Str.empty) = decide (xs = ys) := by
  intro xs ys hl
  rw [Bool.eq_iff_iff, decide_eq_true_iff, List.all_eq_true]
  constructor
  · intro h
    refine List.ext_getElem hl fun i h1 h2 => ?_
    have := h i (List.mem_range.mpr h1)
    rw [beq_iff_eq, List.getD_eq_getElem?_getD, List.getD_eq_getElem?_getD, List.getElem?_eq_getElem h1, List.getElem?_eq_getElem h2] at this
    exact this
  · rintro rfl i _
    exact beq_self_eq_true _
theorem StrsV.get {vs : List Value} {xs : List Str} (h : StrsV vs xs) : ∀ (i : Nat) (hi : i < vs.length), ∃ t, vs[i] = .str (xs.getD i Str.empty) t := by
  induction h with
  | nil => intro i hi; simp at hi
  | cons x t _ ih =>
    intro i hi
    cases i with
    | zero => exact ⟨t, rfl⟩
    | succ i => obtain ⟨u, e⟩ := ih i (by simpa using hi); exact ⟨u, by simpa using e⟩
section
variable {A : Around} {s : Shared} {Z : Zone}
theorem rc_strs {a b : Addr} {vs us : List Value} {xs ys : List Str} {n m : Nat} (ha : s.heap.get? a = some (W.listOf vs.toArray n)) (hb : s.heap.get? b = some (W.listOf us.toArray m)) (hx : StrsV vs xs) (hy : StrsV us ys) (hu : A.units < cLine) :
    RcAt A s (.ref a) (.ref b) (decide (xs = ys)) := by
  by_cases hl : xs.length = ys.length
  · have hsz : vs.toArray.size = us.toArray.size := by rw [List.size_toArray, List.size_toArray, hx.length, hy.length, hl]
    have key := RcAt.lists (A := A) (e := fun j => xs.getD j Str.empty == ys.getD j Str.empty) (isList_of ha) (isList_of hb) hsz hu (fun j q1 q2 => by
      have q1' : j < vs.length := by simpa using q1
      have q2' : j < us.length := by simpa using q2
      obtain ⟨t, e⟩ := hx.get j q1'
      obtain ⟨u, e'⟩ := hy.get j q2'
      have e1 : vs.toArray[j] = .str (xs.getD j Str.empty) t := by simpa using e
      have e2 : us.toArray[j] = .str (ys.getD j Str.empty) u := by simpa using e'
      rw [e1, e2]
      exact EqAt.str_str _ _ _ _)
    rw [List.size_toArray, hx.length, all_range_eq xs ys hl] at key
    exact key
  · rw [decide_eq_false (fun e => hl (by rw [e]))]
    refine RcAt.lists_lengths (isList_of ha) (isList_of hb) ?_ hu
    rw [List.size_toArray, List.size_toArray, hx.length, hy.length]
    simpa using hl
theorem eq_strs {a b : Addr} {vs us : List Value} {xs ys : List Str} {n m : Nat} (ha : s.heap.get? a = some (W.listOf vs.toArray n)) (hb : s.heap.get? b = some (W.listOf us.toArray m)) (hx : StrsV vs xs) (hy : StrsV us ys) (hu : A.units < cLine) :
    EqAt A s (.ref a) (.ref b) (decide (xs = ys)) := by
  by_cases hab : a = b
  · subst hab
    rw [ha] at hb
    injection hb with hb
    injection hb with _ _ hb
    injection hb with hb
    have : vs = us := by simpa using congrArg Array.toList hb
    subst this
    rw [decide_eq_true (hx.det hy)]
    exact EqAt.same _
  · exact EqAt.of_refs hab (rc_strs ha hb hx hy hu)
/-- a state of the search in the zone -/
inductive StateAt (Z : Zone) : Value → List Str → Str → Prop
  | mk {a b : Addr} {g : Str} {t : Tok} {n m : Nat} {ys : List Value} {srt : List Str} : Z a = some (W.listOf #[.ref b, .str g t] n) → Z b = some (W.listOf ys.toArray m) → StrsV ys srt → StateAt Z (.ref a) srt g
theorem StateAt.mono {Z Z' : Zone} (h : Z.le Z') {v : Value} {srt : List Str} {g : Str} (x : StateAt Z v srt g) : StateAt Z' v srt g := by
  cases x with
  | mk a b c => exact .mk (h _ _ a) (h _ _ b) c
theorem StateAt.det {v : Value} {srt srt' : List Str} {g g' : Str} (x : StateAt Z v srt g) (y : StateAt Z v srt' g') : srt = srt' ∧ g = g' := by
  cases x with
  | mk a b c =>
    cases y with
    | mk a' b' c' =>
      rw [a] at a'
      injection a' with a'
      injection a' with _ _ a'
      injection a' with a'
      have q := congrArg Array.toList a'
      simp at q
      obtain ⟨rfl, rfl, rfl⟩ := q
      rw [b] at b'
      injection b' with b'
      injection b' with _ _ b'
      injection b' with b'
      have q := congrArg Array.toList b'
      simp at q
      subst q
      exact ⟨c.det c', rfl⟩
theorem eq_states {v v' : Value} {srt srt' : List Str} {g g' : Str} (hz : Z.on s.heap) (x : StateAt Z v srt g) (y : StateAt Z v' srt' g') (hu : A.units + 3 < cLine) : EqAt A s v v' (decide (srt = srt') && (g == g')) := by
  have x0 := x
  have y0 := y
  cases x with
  | @mk a b _ t _ _ ys _ xa xb xc =>
    cases y with
    | @mk a' b' _ t' _ _ ys' _ xa' xb' xc' =>
      by_cases hab : a = a'
      · subst hab
        obtain ⟨rfl, rfl⟩ := x0.det y0
        rw [decide_eq_true rfl, beq_self_eq_true]
        exact EqAt.same _
      · exact eq_pair hab (hz _ _ xa) (hz _ _ xa') (by omega) (eq_strs (hz _ _ xb) (hz _ _ xb') xc xc' (by show A.units + 1 < _; omega)) (EqAt.str_str _ _ _ _)
end
/-- what is known only grows -/
noncomputable def Ext (fs fs' : List Fm) : Prop := ∀ g ∈ fs, g ∈ fs' ∧ fs'.idxOf g = fs.idxOf g
theorem Ext.refl (fs : List Fm) : Ext fs fs := fun g h => ⟨h, rfl⟩
theorem Ext.trans {a b c : List Fm} (x : Ext a b) (y : Ext b c) : Ext a c := fun g h => ⟨(y g (x g h).1).1, (y g (x g h).1).2.trans (x g h).2⟩
theorem Ext.addOne (fs : List Fm) (f : Fm) : Ext fs (addOne fs f) := fun g h => ⟨addOne_sub h, idx_addOne h⟩
theorem Ext.nums {fs fs' Γ : List Fm} (x : Ext fs fs') (h : ∀ g ∈ Γ, g ∈ fs) : Mine.nums fs' Γ = Mine.nums fs Γ := List.map_congr_left fun g hg => by rw [(x g (h g hg)).2]
theorem Ext.ents {fs fs' Γ : List Fm} (x : Ext fs fs') (h : ∀ g ∈ Γ, g ∈ fs) : Mine.ents fs' Γ = Mine.ents fs Γ := List.map_congr_left fun g hg => by rw [(x g (h g hg)).2]
inductive WayAt (Z : Zone) (fs : List Fm) : List Value → List (List Fm × Str) → Prop
  | nil : WayAt Z fs [] []
  | cons {v srt g Γ vs way} : StateAt Z v srt g → srt.Perm (nums fs Γ) → sortedS srt = true → (∀ f ∈ Γ, f ∈ fs) → Γ.Nodup → WayAt Z fs vs way → WayAt Z fs (v :: vs) ((Γ, g) :: way)
theorem WayAt.mono {Z Z' : Zone} {fs fs' : List Fm} (h : Z.le Z') (e : Ext fs fs') {vs way} (x : WayAt Z fs vs way) : WayAt Z' fs' vs way := by
  induction x with
  | nil => exact .nil
  | cons a b c d n _ ih => exact .cons (a.mono h) (by rw [e.nums d]; exact b) c (fun f hf => (e f (d f hf)).1) n ih
theorem WayAt.append {Z : Zone} {fs : List Fm} {vs ws way way'} (x : WayAt Z fs vs way) (y : WayAt Z fs ws way') : WayAt Z fs (vs ++ ws) (way ++ way') := by
  induction x with
  | nil => exact y
  | cons a b c d n _ ih => exact .cons a b c d n ih
theorem WayAt.length {Z : Zone} {fs : List Fm} {vs way} (x : WayAt Z fs vs way) : vs.length = way.length := by
  induction x with
  | nil => rfl
  | cons _ _ _ _ _ _ ih => simp [ih]
noncomputable def stIs (Z : Zone) (srt : List Str) (g : Str) (y : Value) : Bool := @decide (StateAt Z y srt g) (Classical.propDecidable _)
theorem stIs_of {Z : Zone} {srt srt' : List Str} {g g' : Str} {y : Value} (h : StateAt Z y srt' g') : stIs Z srt g y = (decide (srt' = srt) && (g' == g)) := by
  unfold stIs
  by_cases q : srt' = srt ∧ g' = g
  · obtain ⟨rfl, rfl⟩ := q
    rw [decide_eq_true rfl, beq_self_eq_true]
    exact @decide_eq_true _ (Classical.propDecidable _) h
  · have e : (decide (srt' = srt) && (g' == g)) = false := by
      rw [Bool.and_eq_false_iff]
      by_cases q1 : srt' = srt
      · exact .inr (by rw [beq_eq_false_iff_ne]; exact fun q2 => q ⟨q1, q2⟩)
      · exact .inl (decide_eq_false q1)
    rw [e]
    exact @decide_eq_false _ (Classical.propDecidable _) (fun h' => q (h.det h'))
theorem in_way {w : World} {s : Shared} {A : Around} {E Q : Value → Shared → Prop} {Z : Zone} {fs Γ : List Fm} {Wy : Addr} {wvs : List Value} {way : List (List Fm × Str)} {n : Nat} {v : Value} {srt : List Str} {g : Str} (hz : Z.on s.heap) (hW : s.heap.get? Wy = some (W.listOf wvs.toArray n)) (hw : WayAt Z fs wvs way)
    (hv : StateAt Z v srt g) (hp : srt.Perm (nums fs Γ)) (hs : sortedS srt = true) (hΓ : ∀ f ∈ Γ, f ∈ fs) (hn : Γ.Nodup) (hl : fs.length ≤ 5) (hu : A.units + 4 < cLine) (hq : Q (.bool (seen Γ g way)) s) : wpAny (model PG w) A (compareOp .In v (.ref Wy)) Q E s := by
  have mem : ∀ y ∈ wvs, ∃ srt' g', StateAt Z y srt' g' := by
    clear hW hq
    induction hw with
    | nil => intro y hy; cases hy
    | cons a _ _ _ _ _ ih =>
      intro y hy
      rcases List.mem_cons.mp hy with rfl | hy
      · exact ⟨_, _, a⟩
      · exact ih y hy
  refine in_listAt (stIs Z srt g) (isList_of hW) (fun y hy => ?_) ?_
  · obtain ⟨srt', g', h⟩ := mem y (by simpa using hy)
    rw [stIs_of h]
    exact eq_states hz h hv (by show A.units + 1 + 3 < _; omega)
  · have e : wvs.any (stIs Z srt g) = seen Γ g way := by
      clear hW hq mem
      unfold seen
      induction hw with
      | nil => rfl
      | cons a b c d n' _ ih =>
        rw [List.any_cons, List.any_cons, ih, stIs_of a, nums_eq hl d hΓ n' hn b hp c hs]
    rw [show wvs.toArray.any (stIs Z srt g) = wvs.any (stIs Z srt g) from by simp, e]
    exact hq
theorem n6_facts : names6.all (fun x => (!tooLong (Txt.upper x).length) && (!tooLong (Txt.lower (Txt.upper x)).length) && (Txt.lower (Txt.upper x) == Txt.lower x) && (!tooLong (Txt.lower x).length) && names6.contains (Txt.lower x)) = true := by decide +kernel
theorem n6_at {x : Str} (h : x ∈ names6) : tooLong (Txt.upper x).length = false ∧ tooLong (Txt.lower (Txt.upper x)).length = false ∧ Txt.lower (Txt.upper x) = Txt.lower x ∧ tooLong (Txt.lower x).length = false ∧ Txt.lower x ∈ names6 := by
  have := List.all_eq_true.mp n6_facts x h
  simp only [Bool.and_eq_true, Bool.not_eq_true', beq_iff_eq, List.contains_iff_mem] at this
  exact ⟨this.1.1.1.1, this.1.1.1.2, this.1.1.2, this.1.2, this.2⟩
/-- what get_all tells -/
noncomputable def toldOf (g : Str) (Γ : List Fm) : List Fm := Γ.filter fun f => low f.last == g
theorem filter_ents (lo : Str → Str) (g : Str) (fs : List Fm) : ∀ Γ : List Fm, ((ents fs Γ).filter fun e => lo e.1 == g).map (·.2) = nums fs (Γ.filter fun f => lo f.last == g)
  | [] => rfl
  | f :: Γ => by
    have ih := filter_ents lo g fs Γ
    show ((List.filter _ ((f.last, num (fs.idxOf f)) :: ents fs Γ)).map _) = _
    rw [List.filter_cons, List.filter_cons]
    by_cases h : (lo f.last == g) = true
    · rw [if_pos h, if_pos h, List.map_cons, ih]; rfl
    · rw [if_neg h, if_neg h, ih]
theorem ents_vals (fs Γ : List Fm) : (ents fs Γ).map (·.2) = nums fs Γ := by unfold ents nums; rw [List.map_map]; rfl
theorem told_again {fs Γ : List Fm} {p : Fm → Bool} (hl : fs.length ≤ 5) (h : ∀ g ∈ Γ, g ∈ fs) : (nums fs Γ).filter (fun x => decide (x ∈ nums fs (Γ.filter p))) = nums fs (Γ.filter p) := by
  have hsub : ∀ g ∈ Γ.filter p, g ∈ fs := fun g hg => h g ((List.mem_filter.mp hg).1)
  unfold nums
  rw [List.filter_map]
  congr 1
  refine List.filter_congr fun f hf => ?_
  show decide (num (fs.idxOf f) ∈ nums fs (Γ.filter p)) = p f
  rw [Bool.eq_iff_iff, decide_eq_true_iff, nums_mem hl (h f hf) hsub, List.mem_filter]
  exact ⟨fun q => q.2, fun q => ⟨hf, q⟩⟩
section
variable {w : World} {c : Ctx0} {G : Array GenState} {Z : Zone} {ns : List (Addr × (Str → Option Value))} {l : List (Addr × Obj)} {s : Shared} {A : Around} {E : Value → Shared → Prop}
noncomputable def prTold (P : Params) : Stmt := match bodyAt P 239 with
  | _ :: _ :: _ :: a :: _ => a
  | _ => .Pass ⟨0, 0, 0, 0⟩
noncomputable def prOdd (P : Params) : Stmt := match bodyAt P 239 with
  | _ :: _ :: _ :: _ :: a :: _ => a
  | _ => .Pass ⟨0, 0, 0, 0⟩
noncomputable def prState (P : Params) : Stmt := match bodyAt P 239 with
  | _ :: _ :: _ :: _ :: _ :: a :: _ => a
  | _ => .Pass ⟨0, 0, 0, 0⟩
/-- told, laid = .. -/
theorem told_step {L R hl x dx : Addr} {tk : Tok} {m : Str → Option Value} {ri tvs : List Value} {rn tn : Nat} {nm : Str} {tnm : Tok} {es : List (Str × Str)} {Q : Flow → Shared → Prop} {st : Stmt} (hst : st = prTold w.params) (hr : Rm A 60) (hT : c.T = [])
    (hS : S w c G Z (((prEnv w L).locals, m) :: ns) ((L + 1, cellO none) :: l) s) (hm1 : m (Str.ofString "row") = some (.ref R)) (hm2 : m (Str.ofString "table") = some (.ref x)) (hR : Z R = some (W.listOf (ri ++ [Value.str nm tnm]).toArray rn)) (hnm : nm ∈ names6)
    (hx : (x, hdI dx) ∈ l) (hd : (dx, hdD w tk hl) ∈ l) (hv : (hl, W.listOf tvs.toArray tn) ∈ l) (he : EntsAt Z tvs es) (hes : ∀ e ∈ es, e.1 ∈ names6) (hn : tvs.length ≤ 1000)
    (k : ∀ D1 y1 n1 D2 y2 n2 s', StrsV y1 ((es.filter fun e => Txt.lower e.1 == Txt.lower nm).map (·.2)) → StrsV y2 (es.map (·.2)) →
      S w c G Z (((prEnv w L).locals, fun y => if y = Str.ofString "laid" then some (.ref D2) else m y) :: ns) ((L + 1, cellO (some (.ref D1))) :: (D1, W.listOf y1.toArray n1) :: (D2, W.listOf y2.toArray n2) :: l) s' → Q .next s') :
    wpAny (model PG w) A (exec st (prEnv w L)) Q E s := by
  subst hst
  obtain ⟨f1, f2, f3, f4, f5⟩ := n6_at hnm
  refine Assign_Tuple ?_ (by kernel_rfl) (by kernel_rfl)
  refine mk_tuple (args_cons ?_)
  with_reducible refine callM (f := 121) ?_
  refine ld hS hm2 ⟨x, dx, hl, tk, rfl, hS.kin, hS.own' (.tail _ hx), hS.own' (.tail _ hd), ?_⟩
  with_reducible refine argsM (by kernel_rfl) ?_
  refine args_one ?_
  with_reducible refine callS0 F.slot_str_upper F.type_str_upper ?_
  refine Subscript_ (ld hS hm1 (minus_one hS fun t1 s1 hS1 => ?_))
  refine item_neg (hS1.z _ _ hR) ⟨nm, tnm, rfl, SC.upper f1 ?_⟩
  have hS2 := hS1.toks (s1.toks + 1)
  refine ⟨hS2.kin, ?_⟩
  refine get_all_ok (hr.le (by omega)) hS2 (fun a ha => by rw [hT] at ha; cases ha) he (by omega) (.tail _ hx) (.tail _ hd) (.tail _ hv) (by rw [f3]; exact finds_name _ f5) f2 (fun e h => (n6_at (hes e h)).2.2.2.1) fun D1 y1 n1 s3 hD1 hy1 hS3 => ?_
  refine args_one ?_
  with_reducible refine callM (f := 139) ?_
  refine ld hS3 hm2 ⟨x, dx, hl, tk, rfl, hS3.kin, hS3.own' (.tail _ (.tail _ hx)), hS3.own' (.tail _ (.tail _ hd)), ?_⟩
  with_reducible refine argsM0 (by kernel_rfl) ⟨hS3.kin, ?_⟩
  refine values_ok (hr.le (by omega)) hS3 (fun a ha => by rw [hT] at ha; cases ha) he (by omega) (.tail _ (.tail _ hx)) (.tail _ (.tail _ hd)) (.tail _ (.tail _ hv)) fun D2 y2 n2 s4 hD2 hy2 hS4 => ?_
  refine ⟨_, _, _, _, _, hS4, (by show 2 ≤ sizeLine; decide), fun T s5 hTc hS5 => ?_⟩
  refine wpAny_assign_Tuple hr.handled (items := #[.ref D1, .ref D2]) ⟨_, hS5.own' (.head _), rfl, _, rfl⟩ rfl rfl (fun h' he' => ?_)
  have h1 : S w c G Z _ _ { s5 with heap := h' } := hS5.heapK fun b o e => he' b o (Nat.ne_of_lt (Heap.lt_size e)) e
  show wpAny (model PG w) A (do holding [.ref D2] (assign (.Name (Str.ofString "told") _) (prEnv w L) (.ref D1)); assignInOrder [assign (.Name (Str.ofString "laid") _) (prEnv w L)] [.ref D2]) _ E _
  refine wpAny_bind (wpAny_holding (wpAny_assign_Name ?_))
  refine stc h1 (a := L + 1) (.tail (.tail (.tail .head))) fun s6 hS6 => ?_
  show wpAny (model PG w) A (do assign (.Name (Str.ofString "laid") _) (prEnv w L) (.ref D2); assignInOrder [] []) _ E _
  refine wpAny_bind (wpAny_assign_Name (st hS6 fun s7 hS7 => wpAny_pure ?_))
  rw [f3] at hy1
  refine k D1 y1 n1 D2 y2 n2 s7 hy1 hy2 ((hS7.sub (List.Sublist.refl _) (.cons _ (.refl _))).perm ?_)
  have p1 : ((L + 1, cellO (some (.ref D1))) :: (D1, W.listOf y1.toArray n1) :: (D2, W.listOf y2.toArray n2) :: l).Perm ((D2, W.listOf y2.toArray n2) :: (D1, W.listOf y1.toArray n1) :: (L + 1, cellO (some (.ref D1))) :: l) :=
    ((List.Perm.swap _ _ _).trans ((List.Perm.swap _ _ _).cons _)).trans (((List.Perm.swap _ _ _)).trans (List.Perm.refl _))
  exact p1
end
theorem rcne_strs {A : Around} {s : Shared} {a b : Addr} {vs us : List Value} {xs ys : List Str} {n m : Nat} (ha : s.heap.get? a = some (W.listOf vs.toArray n)) (hb : s.heap.get? b = some (W.listOf us.toArray m)) (hx : StrsV vs xs) (hy : StrsV us ys) (hu : A.units < cLine) :
    RcNeAt A s (.ref a) (.ref b) (!decide (xs = ys)) := by
  by_cases hl : xs.length = ys.length
  · have hsz : vs.toArray.size = us.toArray.size := by rw [List.size_toArray, List.size_toArray, hx.length, hy.length, hl]
    have key := RcNeAt.lists (A := A) (e := fun j => xs.getD j Str.empty == ys.getD j Str.empty) (isList_of ha) (isList_of hb) hsz hu (fun j q1 q2 => by
      have q1' : j < vs.length := by simpa using q1
      have q2' : j < us.length := by simpa using q2
      obtain ⟨t, e⟩ := hx.get j q1'
      obtain ⟨u, e'⟩ := hy.get j q2'
      have e1 : vs.toArray[j] = .str (xs.getD j Str.empty) t := by simpa using e
      have e2 : us.toArray[j] = .str (ys.getD j Str.empty) u := by simpa using e'
      rw [e1, e2]
      exact EqAt.str_str _ _ _ _)
    rw [List.size_toArray, hx.length, all_range_eq xs ys hl] at key
    exact key
  · rw [decide_eq_false (fun e => hl (by rw [e]))]
    refine RcNeAt.lists_lengths (isList_of ha) (isList_of hb) ?_ hu
    rw [List.size_toArray, List.size_toArray, hx.length, hy.length]
    simpa using hl
theorem StrsV.are {vs : List Value} {xs : List Str} (h : StrsV vs xs) : StrsAre vs xs := by
  induction h with
  | nil => exact .nil
  | cons x t _ ih => exact .cons x t ih
theorem StrsV.of_are {vs : List Value} {xs : List Str} (h : StrsAre vs xs) : StrsV vs xs := by
  induction h with
  | nil => exact .nil
  | cons x t _ ih => exact .cons x t ih
section
variable {w : World} {c : Ctx0} {G : Array GenState} {Z : Zone} {ns : List (Addr × (Str → Option Value))} {l : List (Addr × Obj)} {s : Shared} {A : Around} {E : Value → Shared → Prop}
theorem filter_step' {α : Type} {p : α → Bool} {es : List α} {i : Nat} {e : α} (h : es[i]? = some e) : (es.take (i + 1)).filter p = (es.take i).filter p ++ (if p e = true then [e] else []) := by
  have e1 : es.take (i + 1) = es.take i ++ [e] := by rw [List.take_add_one, h]; rfl
  rw [e1, List.filter_append, List.filter_cons]
  by_cases q : p e = true
  · rw [if_pos q, if_pos q]; rfl
  · rw [if_neg q, if_neg q]; rfl
/-- if told != [..]: nothing is odd -/
theorem odd_step {L D1 D2 : Addr} {m : Str → Option Value} {y1 y2 : List Value} {n1 n2 : Nat} {x1 x2 : List Str} {Q : Flow → Shared → Prop} {st : Stmt} (hst : st = prOdd w.params) (hr : Rm A 60) (hT : c.T = [])
    (hS : S w c G Z (((prEnv w L).locals, m) :: ns) ((L + 1, cellO (some (.ref D1))) :: (D1, W.listOf y1.toArray n1) :: (D2, W.listOf y2.toArray n2) :: l) s) (hm1 : m (Str.ofString "laid") = some (.ref D2)) (h1 : StrsV y1 x1) (h2 : StrsV y2 x2)
    (he : x2.filter (fun x => decide (x ∈ x1)) = x1) (hn : y2.length ≤ 1000)
    (k : ∀ s', S w c G Z (((prEnv w L).locals, m) :: ns) ((L + 1, cellO (some (.ref D1))) :: (D1, W.listOf y1.toArray n1) :: (D2, W.listOf y2.toArray n2) :: l) s' → Q .next s') :
    wpAny (model PG w) A (exec st (prEnv w L)) Q E s := by
  subst hst
  refine wpAny_If (wpAny_isTrue_Compare1 ?_)
  refine ldc hS (a := L + 1) (v := .ref D1) (.head _) ?_
  refine comp (cl := [(Str.ofString "told", L + 1)]) ?_
  refine ld hS hm1 ?_
  refine iter_list hS (hS.own' (.tail _ (.tail _ (.head _)))) fun I io s4 hne hJ hIc hS4 => ?_
  refine ⟨c, G, Z, _, ns, _, I, io, kList D2 y2, fun i ys Z' => StrsV ys ((x2.take i).filter fun x => decide (x ∈ x1)) ∧ Z' = Z, rfl, itr_list hr.handled I D2 hne y2, hJ, Nat.le_trans hn (by decide), hS4, (fun a ha => by rw [hT] at ha; cases ha), ⟨.nil, rfl⟩, fun Z' ns' a b s' hS' _ => isList_of (hS'.own' (.tail _ (.tail _ (.tail _ (.tail _ (.head _)))))), ?_, ?_⟩
  · intro C D i v ys Z' m' k' io' s5 E hi hP hJ' hI hle hS5
    obtain ⟨hI, rfl⟩ := hI
    obtain ⟨x, t, rfl, hx⟩ := h2.at hP
    refine wpAny_pure ?_
    refine wpAny_assign_Name (st hS5 fun s6 hS6 => ?_)
    rw [List.forIn_cons]
    simp only [if_true]
    refine wpAny_bind (wpAny_bind (wpAny_isTrue_Compare1 ?_))
    refine ld hS6 (v := .str x t) (by walk_at "lk") ?_
    refine ldc hS6 (a := L + 1) (v := .ref D1) (.tail _ (.tail _ (.head _))) ?_
    refine in_strs (hS6.own' (.tail _ (.tail _ (.tail _ (.head _))))) h1 (wpAny_truthy_bool (wpAny_pure ?_))
    refine wpAny_pure ?_
    have hstep := filter_step' (p := fun x => decide (x ∈ x1)) hx
    by_cases q : decide (x ∈ x1) = true
    · rw [if_pos q] at hstep ⊢
      refine ld hS6 (v := .str x t) (by walk_at "lk") ⟨Z', _, .refl _, hS6, ?_, rfl⟩
      rw [hstep]
      exact hI.snoc x t
    · rw [if_neg q] at hstep ⊢
      refine ⟨Z', _, .refl _, hS6, ?_, rfl⟩
      rw [hstep, List.append_nil]
      exact hI
  · intro D ys Z' k' s5 hD hI hle hS5
    obtain ⟨hI, rfl⟩ := hI
    have e : (kList D2 y2).n = x2.length := h2.length
    rw [e, List.take_length, he] at hI
    have hu := hr.ult
    show wpAny _ A (richCompare .NotEq _ _) _ _ _
    refine rcne_strs (hS5.own' (.tail _ (.tail _ (.head _)))) (hS5.own' (.head _)) h1 hI (by omega) PG w E _ ?_
    rw [decide_eq_true rfl]
    refine wpAny_truthy_bool (wpAny_execs_nil ?_)
    exact k s5 (hS5.sub (.refl _) (.cons _ (.refl _)))
/-- state = [sorted(laid), row[-1].lower()] -/
theorem state_step {L R D2 : Addr} {m : Str → Option Value} {y2 ri : List Value} {n2 rn : Nat} {x2 : List Str} {nm : Str} {tnm : Tok} {Q : Flow → Shared → Prop} {st' : Stmt} (hst : st' = prState w.params) (hr : Rm A 60) (hT : c.T = [])
    (hS : S w c G Z (((prEnv w L).locals, m) :: ns) l s) (hm0 : m (Str.ofString "row") = some (.ref R)) (hm1 : m (Str.ofString "laid") = some (.ref D2)) (hR : Z R = some (W.listOf (ri ++ [Value.str nm tnm]).toArray rn)) (hnm : nm ∈ names6)
    (hD : (D2, W.listOf y2.toArray n2) ∈ l) (h2 : StrsV y2 x2) (hn : y2.length < 64)
    (k : ∀ Z' v srt s', Z.le Z' → srt.Perm x2 → sortedS srt = true → StateAt Z' v srt (low nm) → S w c G Z' (((prEnv w L).locals, fun y => if y = Str.ofString "state" then some v else m y) :: ns) l s' → Q .next s') :
    wpAny (model PG w) A (exec st' (prEnv w L)) Q E s := by
  subst hst
  obtain ⟨f1, f2, f3, f4, f5⟩ := n6_at hnm
  refine wpAny_Assign_Name ?_
  refine mk_list (args_cons ?_)
  with_reducible refine callB (id := "sorted") ?_
  refine is_ldb hS.toZ0 (by kernel_rfl) (by kernel_rfl) (args_one (ld hS hm1 ?_))
  have hsa : StrsAre y2 x2 := StrsV.are h2
  refine sorted_strs (isList_of (hS.own' hD)) hsa hn fun out ss hss hperm hsorted => ?_
  obtain ⟨e, he⟩ := sortedAll_at s.heap y2 out
  have hnone : s.heap.get? (s.heap.objs.size + 1) = none := by
    cases q : s.heap.get? (s.heap.objs.size + 1) with
    | none => rfl
    | some o => exact absurd (Heap.lt_size q) (Nat.not_lt.mpr (Nat.le_succ _))
  have hcn : c.sc.heap.get? (s.heap.objs.size + 1) = none := by
    cases q : c.sc.heap.get? (s.heap.objs.size + 1) with
    | none => rfl
    | some o => have := hS.keep _ _ (by rw [hT]; exact fun z => nomatch z) q; rw [hnone] at this; cases this
  have he' : (sortedAll s.heap y2 out).get? (s.heap.objs.size + 1) = some (W.listOf out.toList.toArray e) := by rw [he]
  have hS1 : S w c G Z (((prEnv w L).locals, m) :: ns) ((s.heap.objs.size + 1, W.listOf out.toList.toArray e) :: l) { s with heap := sortedAll s.heap y2 out } := by
    have hnd := (List.nodup_append.mp hS.nd).2.1
    refine hS.chg [] s.toks (fun _ q => nomatch q) (fun b o _ q => sortedAll_old q) ?_ ?_ ?_ (fun _ q => nomatch q)
    · intro p hp
      rcases List.mem_cons.mp hp with rfl | hp
      · exact he'
      · exact sortedAll_old (hS.own p hp)
    · intro p hp
      rcases List.mem_cons.mp hp with rfl | hp
      · exact .inr hnone
      · exact .inl (List.mem_map_of_mem (f := (·.1)) hp)
    · rw [List.map_cons, List.nodup_cons]
      refine ⟨fun q => ?_, hnd⟩
      obtain ⟨o, ho⟩ := hS.alive _ (List.mem_append_right _ q)
      have ho : s.heap.get? (s.heap.objs.size + 1) = some o := ho
      rw [hnone] at ho; cases ho
  generalize s.heap.objs.size + 1 = D4 at *
  have hz4 := hS1.zo D4 (List.mem_append_right _ (.head _))
  have hS2 := hS1.freeze hcn
  have hle2 : Z.le (Z.put D4 (W.listOf out.toList.toArray e)) := Zone.put_le _ hz4
  refine args_one ?_
  with_reducible refine callS0 F.slot_str_lower F.type_str_lower ?_
  refine Subscript_ (ld hS2 hm0 (minus_one hS2 fun t1 s3 hS3 => ?_))
  refine item_neg (hS3.z _ _ (hle2 _ _ hR)) ⟨nm, tnm, rfl, SC.lower f4 ?_⟩
  have hS4 := hS3.toks (s3.toks + 1)
  refine ⟨_, _, _, _, _, hS4, (by show 2 ≤ sizeLine; decide), fun a s5 hac hS5 => ?_⟩
  have hza := hS5.zo a (List.mem_append_right _ (.head _))
  have hS6 := hS5.freeze hac
  have hle3 := Zone.put_le (Z := Z.put D4 (W.listOf out.toList.toArray e)) (W.listOf [Value.ref D4, Value.str (low nm) s3.toks].toArray 0) hza
  refine st hS6 fun s7 hS7 => ?_
  refine k _ (.ref a) ss s7 (hle2.trans hle3) hperm hsorted (.mk (Zone.put_self) (hle3 _ _ Zone.put_self) (StrsV.of_are hss)) hS7
end
/-! ### the way is short -/
noncomputable def lows : List Str := ["a", "ab", "b"]
theorem low_in {x : Str} (h : x ∈ names6) : low x ∈ lows := by
  have : names6.all (fun x => lows.contains (Txt.lower x)) = true := by decide +kernel
  have := List.all_eq_true.mp this x h
  exact List.contains_iff_mem.mp this
structure Chain (U Γ : List Fm) (way : List (List Fm × Str)) : Prop where
  sub : ∀ p ∈ way, (∀ f ∈ p.1, f ∈ Γ) ∧ p.1.Nodup ∧ p.2 ∈ lows
  pw : way.Pairwise fun p q => (∀ f ∈ p.1, f ∈ q.1) ∧ ¬ (sameSet p.1 q.1 = true ∧ p.2 = q.2)
  hU : ∀ f ∈ Γ, f ∈ U
  nd : Γ.Nodup
theorem same_of {a b : List Fm} (ha : a.Nodup) (h : ∀ f ∈ a, f ∈ b) (hl : b.length ≤ a.length) : sameSet a b = true := by
  unfold sameSet
  rw [Bool.and_eq_true, List.all_eq_true, List.all_eq_true]
  simp only [decide_eq_true_iff]
  refine ⟨h, fun f hf => ?_⟩
  by_cases q : f ∈ a
  · exact q
  · exfalso
    have := nodup_len (l := f :: a) (U := b) (List.nodup_cons.mpr ⟨q, ha⟩) fun x hx => (List.mem_cons.mp hx).elim (fun e => e ▸ hf) (h x)
    rw [List.length_cons] at this; omega
noncomputable def spots : List (Nat × Str) := (List.range 6).flatMap fun n => lows.map fun g => (n, g)
theorem Chain.len {U Γ : List Fm} {way : List (List Fm × Str)} (hl : U.length ≤ 5) (h : Chain U Γ way) : way.length ≤ 18 := by
  have nd : (way.map fun p => (p.1.length, p.2)).Nodup := by
    rw [List.Nodup, List.pairwise_map]
    refine List.Pairwise.imp_of_mem ?_ h.pw
    intro p q hp hq hpq e
    obtain ⟨e1, e2⟩ := Prod.mk.inj e
    exact hpq.2 ⟨same_of (h.sub p hp).2.1 hpq.1 (by omega), e2⟩
  have hs : ∀ x ∈ way.map (fun p => (p.1.length, p.2)), x ∈ spots := by
    intro x hx
    obtain ⟨p, hp, rfl⟩ := List.mem_map.mp hx
    have h1 := nodup_len (h.sub p hp).2.1 fun f hf => h.hU f ((h.sub p hp).1 f hf)
    refine List.mem_flatMap.mpr ⟨p.1.length, List.mem_range.mpr (by omega), List.mem_map.mpr ⟨p.2, (h.sub p hp).2.2, rfl⟩⟩
  have := nodup_len nd hs
  rw [List.length_map] at this
  exact Nat.le_trans this (by decide +kernel)
theorem Chain.step {U Γ Γ' : List Fm} {way : List (List Fm × Str)} {g : Str} (h : Chain U Γ way) (hs : ∀ f ∈ Γ, f ∈ Γ') (hU : ∀ f ∈ Γ', f ∈ U) (hn : Γ'.Nodup) (hg : g ∈ lows) (hseen : seen Γ' g way = false) : Chain U Γ' (way ++ [(Γ', g)]) := by
  refine ⟨fun p hp => ?_, ?_, hU, hn⟩
  · rcases List.mem_append.mp hp with q | q
    · exact ⟨fun f hf => hs f ((h.sub p q).1 f hf), (h.sub p q).2⟩
    · rw [List.mem_singleton.mp q]; exact ⟨fun f hf => hf, hn, hg⟩
  · refine List.pairwise_append.mpr ⟨h.pw, by simp, fun p hp q hq => ?_⟩
    rw [List.mem_singleton.mp hq]
    refine ⟨fun f hf => hs f ((h.sub p hp).1 f hf), fun e => ?_⟩
    unfold seen at hseen
    have := List.any_eq_false.mp hseen p hp
    refine this ?_
    rw [Bool.and_eq_true, beq_iff_eq]
    exact e
/-- what is known, in the heap -/
noncomputable def KnownAt (w : World) (c : Ctx0) (G : Array GenState) (U : List Fm) (K : Addr) (fs : List Fm) (ns : List (Addr × (Str → Option Value))) (l : List (Addr × Obj)) (Z : Zone) (s : Shared) : Prop :=
  ∃ kvs kn fs', S w c G Z ns ((K, W.listOf kvs.toArray kn) :: l) s ∧ TreesAt Z kvs fs' ∧ fs'.Nodup ∧ (∀ g ∈ fs', g ∈ U) ∧ Ext fs fs'
/-- a call of the search gives what sr tells -/
noncomputable def PrOK (w : World) (n : Nat) : Prop :=
  ∀ (A : Around) (c : Ctx0) (G : Array GenState) (Z : Zone) (ns : List (Addr × (Str → Option Value))) (l : List (Addr × Obj)) (s : Shared) (E Q : Value → Shared → Prop)
    (K x dx hl Wy O : Addr) (tk : Tok) (kvs tvs wvs : List Value) (kn tn wn : Nat) (fs Γ U : List Fm) (way : List (List Fm × Str)) (v : Value) (t : Fm),
    Rm A (20 * n + 120) → c.T = [] → Uni U → S w c G Z ns ((K, W.listOf kvs.toArray kn) :: l) s → (hl, W.listOf tvs.toArray tn) ∈ l → (x, hdI dx) ∈ l → (dx, hdD w tk hl) ∈ l →
    Z Wy = some (W.listOf wvs.toArray wn) → TreeAt Z v t → t.depth ≤ 5 → t.last ∈ names6 → (∀ g ∈ t.lefts, g ∈ U) → TreesAt Z kvs fs → fs.Nodup → (∀ g ∈ fs, g ∈ U) → (∀ g ∈ Γ, g ∈ fs) →
    EntsAt Z tvs (ents fs Γ) → WayAt Z fs wvs way → Chain U Γ way → 19 ≤ way.length + n →
    (∀ Z' s', Z.le Z' → KnownAt w c G U K fs ns l Z' s' → Q (.bool (sr n t Γ way)) s') →
    wpAny (model PG w) A (call (.ref 239) [v, .ref x, .ref K, .ref Wy, .ref O]) Q E s
noncomputable def prSpot (P : Params) : List Stmt := match bodyAt P 239 with
  | _ :: _ :: _ :: _ :: _ :: _ :: .For _ _ b _ _ :: _ => b
  | _ => []
noncomputable def prInner (P : Params) : Stmt := match prSpot P with
  | _ :: a :: _ => a
  | _ => .Pass ⟨0, 0, 0, 0⟩
section
variable {w : World} {c : Ctx0} {G : Array GenState} {Z : Zone} {ns : List (Addr × (Str → Option Value))} {l : List (Addr × Obj)} {s : Shared} {A : Around} {E : Value → Shared → Prop}
inductive slL3 (w : World) (Q : Value → Shared → Prop) (o x y : Value) (s₃ : Shared) : Prop
  | mk (a : Addr) (vs : List Value) (n : Nat) (lo hi : Option (Int × Tok)) (h1 : o = .ref a) (h2 : x = partV lo) (h3 : y = partV hi) (c : Ctx0) (G : Array GenState) (Z : Zone) (r : List (Addr × (Str → Option Value))) (l : List (Addr × Obj)) (hS : S w c G Z r l s₃) (ha : s₃.heap.get? a = some (W.listOf vs.toArray n)) (hl : vs.length ≤ sizeLine)
      (k : ∀ D s', c.sc.heap.get? D = none → S w c G Z r ((D, W.listOf (slicePick vs.toArray (lo.map (·.1)) (hi.map (·.1)) none) 0) :: l) s' → Q (.ref D) s') : slL3 w Q o x y s₃
noncomputable abbrev slL2 (w : World) (A : Around) (E : Value → Shared → Prop) (env : Env) (upper : Option PySem.Expr) (Q : Value → Shared → Prop) (o : Value) : Value → Shared → Prop := fun x s₂ => wpAny (model PG w) A (evalPart upper env) (slL3 w Q o x) E s₂
noncomputable abbrev slL1 (w : World) (A : Around) (E : Value → Shared → Prop) (env : Env) (lower upper : Option PySem.Expr) (Q : Value → Shared → Prop) : Value → Shared → Prop := fun o s₁ => wpAny (model PG w) A (evalPart lower env) (slL2 w A E env upper Q o) E s₁
/-- l[lo:hi], all told at the end -/
theorem sl_listE {env : Env} {pos : Pos} {value : PySem.Expr} {lower upper : Option PySem.Expr} {p : Pos} {Q : Value → Shared → Prop}
    (hq : wpAny (model PG w) A (eval value env) (slL1 w A E env lower upper Q) E s) :
    wpAny (model PG w) A (eval (.Subscript value (.Slice lower upper none p) pos) env) Q E s := by
  refine sub_slice (T := "list") slot_list_getitem.lookup (wpAny_mono hq (fun o s₁ h₁ => ?_) fun _ _ x => x)
  refine wpAny_Slice (wpAny_mono h₁ (fun x s₂ h₂ => ?_) fun _ _ x => x)
  refine wpAny_mono h₂ (fun y s₃ h₃ => ?_) fun _ _ x => x
  obtain ⟨a, vs, n, lo, hi, rfl, rfl, rfl, c, G, Z, r, l, hS, ha, hsz, hQ⟩ := h₃
  refine wpAny_pure ?_
  have h1 := hS.heapK (h' := s₃.heap.push { cls := .type "slice", data := .fields #[partV lo, partV hi, .none] }) fun b o' e => Heap.get?_push_of_some _ e
  have hl : ({ s₃ with heap := s₃.heap.push { cls := .type "slice", data := .fields #[partV lo, partV hi, .none] } } : Shared).heap.IsList a vs.toArray := (isList_of ha).push _
  refine ⟨hl.typeIs, wpAny_getItem_list_slice hl (Heap.IsSliceOf.new ..) (part_is lo) (part_is hi) .none (by simp) ?_ (by rw [List.size_toArray]; exact hsz)⟩
  exact hQ _ _ h1.new (h1.push (W.listOf (slicePick vs.toArray (lo.map (·.1)) (hi.map (·.1)) none) 0) rfl)
theorem pick_butlast (vi : List Value) (v : Value) : slicePick (vi ++ [v]).toArray none (some (-1)) none = vi.toArray := by
  have := slicePick_butLast (vi ++ [v]).toArray 1 (by decide)
  rw [show (some (-1) : Option Int) = some (-((1 : Nat) : Int)) from rfl, this]
  simp
/-- names that the loops read -/
structure PrNames (m : Str → Option Value) (K x Wy O : Addr) (sv : Value) : Prop where
  known : m (Str.ofString "known") = some (.ref K)
  table : m (Str.ofString "table") = some (.ref x)
  way : m (Str.ofString "way") = some (.ref Wy)
  odd : m (Str.ofString "odd") = some (.ref O)
  state : m (Str.ofString "state") = some sv
theorem PrNames.set {m : Str → Option Value} {K x Wy O : Addr} {sv : Value} (h : PrNames m K x Wy O sv) (y : Str) (v : Value) (hy : y = Str.ofString "one" ∨ y = Str.ofString "done" ∨ y = Str.ofString "spot") : PrNames (fun z => if z = y then some v else m z) K x Wy O sv := by
  rcases hy with rfl | rfl | rfl <;> exact ⟨got h.known, got h.table, got h.way, got h.odd, got h.state⟩
theorem take_all {α : Type} {p : α → Bool} {es : List α} {i : Nat} {e : α} (h : es[i]? = some e) : (es.take (i + 1)).all p = ((es.take i).all p && p e) := by
  have e1 : es.take (i + 1) = es.take i ++ [e] := by rw [List.take_add_one, h]; rfl
  rw [e1, List.all_append]; simp
theorem inner_for {n : Nat} {L K hl x dx Wy O : Addr} {tk : Tok} {m : Str → Option Value} {tvs wvs : List Value} {tn wn : Nat} {fs0 Γ U : List Fm} {way : List (List Fm × Str)} {f : Fm} {sv : Value} {srt : List Str} {g : Str} {tsp : Tok} {Q : Flow → Shared → Prop} {st' : Stmt} (hst : st' = prInner w.params)
    (IH : PrOK w n) (hr : Rm A (20 * n + 125)) (hT : c.T = []) (hU : Uni U) (hK : KnownAt w c G U K fs0 (((prEnv w L).locals, m) :: ns) l Z s) (hN : PrNames m K x Wy O sv) (hx : (x, hdI dx) ∈ l) (hd : (dx, hdD w tk hl) ∈ l) (hv : (hl, W.listOf tvs.toArray tn) ∈ l)
    (hW : Z Wy = some (W.listOf wvs.toArray wn)) (hf0 : f ∈ fs0) (hfs0 : fs0.length ≤ 5) (hmd : m (Str.ofString "done") = some (.bool true)) (hms : m (Str.ofString "spot") = some (.str (num (fs0.idxOf f)) tsp)) (hΓ : ∀ g ∈ Γ, g ∈ fs0) (hfU : f ∈ U) (he : EntsAt Z tvs (ents fs0 Γ)) (hway : WayAt Z fs0 wvs way)
    (hsv : StateAt Z sv srt g) (hp : srt.Perm (nums fs0 Γ)) (hs : sortedS srt = true) (hch : Chain U Γ (way ++ [(Γ, g)])) (hlen : 19 ≤ way.length + 1 + n)
    (k : ∀ Z' m' s', Z.le Z' → KnownAt w c G U K fs0 (((prEnv w L).locals, m') :: ns) l Z' s' → PrNames m' K x Wy O sv → m' (Str.ofString "done") = some (.bool (f.lefts.all fun o => sr n o Γ (way ++ [(Γ, g)]))) → Q .next s') :
    wpAny (model PG w) A (exec st' (prEnv w L)) Q E s := by
  subst hst
  obtain ⟨kvs, kn, fs, hS, hkv, hnd, hsubU, hext⟩ := hK
  have hfl : fs.length ≤ 5 := Nat.le_trans (nodup_len hnd hsubU) hU.len
  obtain ⟨hffs, hidx⟩ := hext f hf0
  have hilt : fs0.idxOf f < fs0.length := List.idxOf_lt_length_iff.mpr hf0
  refine wpAny_For ?_ (fun _ => rfl)
  with_reducible refine wpAny_mono (Q := fun v s' => ∃ D vi Z', v = .ref D ∧ Z.le Z' ∧ S w c G Z' (((prEnv w L).locals, m) :: ns) ((D, W.listOf vi.toArray 0) :: (K, W.listOf kvs.toArray kn) :: l) s' ∧ TreesAt Z' vi f.lefts) ?_ (fun v s2 h2 => ?_) (fun _ _ x => x)
  · with_reducible refine sl_listE ?_
    with_reducible refine callF (f := 234) (by kernel_rfl) ?_
    refine is_ldg hS.toZ0 (by kernel_rfl) (args_one (Subscript_ (ld hS hN.known ?_)))
    with_reducible refine callT (T := "int") ?_
    refine is_ldb hS.toZ0 (by kernel_rfl) (by kernel_rfl) (args_one (ld hS hms ?_))
    refine KIN.call_num (n := (fs0.idxOf f : Nat)) (by omega) (by omega) ?_
    have hS1 := hS.toks (s.toks + 1)
    obtain ⟨v, hv1, hv2⟩ := hkv.at' (i := fs.idxOf f) (f := f) (by
      have : fs.idxOf f < fs.length := List.idxOf_lt_length_iff.mpr hffs
      rw [List.getElem?_eq_getElem this, List.getElem_idxOf this])
    rw [hidx] at hv1
    refine item_at (hS1.own' (.head _)) (by omega) (by omega) (v := v) (by simpa using hv1) ⟨hS1.kin, ?_⟩
    have hfd := (hU.dep f hfU).1
    refine spread_ok (hr.le (by omega)) hS1.toZ0 hv2 (by omega) fun a vs n' s6 Z' hZ6 ha hvs6 => ?_
    have hS6 := hS1.back hZ6 (fun a ha => by rw [hT] at ha; cases ha)
    rw [f.spread_eq] at hvs6
    obtain ⟨vi, tl, rfl, hvi⟩ := hvs6.snoc_inv
    have hvl : vi.length ≤ 5 := by rw [hvi.length]; have := congrArg List.length f.spread_eq; rw [Fm.spread_length, List.length_append] at this; simp at this; omega
    refine part_none (part_some (minus_one hS6 fun t7 s7 hS7 => ?_))
    refine ⟨a, _, n', none, some (-1, t7), rfl, rfl, rfl, c, G, Z', _, _, hS7, hS7.z _ _ ha, (by rw [List.length_append, sizeLine_eq]; simp; omega), fun D s8 hD hS8 => ?_⟩
    rw [show slicePick (vi ++ [Value.str f.last tl]).toArray (Option.map (·.1) (none : Option (Int × Tok))) (Option.map (·.1) (some ((-1 : Int), t7))) none = vi.toArray from pick_butlast vi _] at hS8
    exact ⟨D, vi, Z', rfl, hZ6.zle, hS8, hvi⟩
  · obtain ⟨D, vi, Z', rfl, hle, hS2, hvi⟩ := h2
    refine iter_list hS2 (hS2.own' (.head _)) fun I io s3 hne hJ _ hS3 => ?_
    have hS3' := hS3.perm (l' := (I, io) :: (K, W.listOf kvs.toArray kn) :: (D, W.listOf vi.toArray 0) :: l) ((List.Perm.swap _ _ _).cons _)
    refine forLoopJ (fun k' s' => ∃ i m' io Z'', k' = vi.length - i ∧ i ≤ vi.length ∧ (kList D vi).J i io ∧ Z'.le Z'' ∧ (∃ kvs kn fs', S w c G Z'' (((prEnv w L).locals, m') :: ns) ((I, io) :: (K, W.listOf kvs.toArray kn) :: (D, W.listOf vi.toArray 0) :: l) s' ∧ TreesAt Z'' kvs fs' ∧ fs'.Nodup ∧ (∀ g ∈ fs', g ∈ U) ∧ Ext fs0 fs') ∧ PrNames m' K x Wy O sv ∧
      m' (Str.ofString "done") = some (.bool ((f.lefts.take i).all fun o => sr n o Γ (way ++ [(Γ, g)])))) ?_ _ ⟨0, m, io, Z', rfl, Nat.zero_le _, hJ, .refl _, ⟨kvs, kn, fs, hS3', hkv.mono hle, hnd, hsubU, hext⟩, hN, hmd⟩
    intro JJ jj E
    rintro k' s' ⟨i, m', io', Z'', rfl, hi, hJ', hle', ⟨kvs', kn', fs', hS', hkv', hnd', hsubU', hext'⟩, hN', hmd'⟩
    refine next_it (itr_list hr.handled I D hne vi) hS' hJ' hi (isList_of (hS'.own' (.tail _ (.tail _ (.head _))))) (fun a ha => by rw [hT] at ha; cases ha) ?_ ?_
    · rintro rfl s4 hS4
      refine wpAny_execs_nil ?_
      have e : (kList D vi).n = f.lefts.length := hvi.length
      rw [e, List.take_length] at hmd'
      exact k Z'' m' s4 (hle.trans hle') ⟨kvs', kn', fs', hS4.sub (.refl _) (.cons_cons _ (.cons _ (.refl _))), hkv', hnd', hsubU', hext'⟩ hN' hmd'
    · intro hlt v io2 s4 hP hJ2 hS4
      obtain ⟨o, ho, hvo⟩ := hvi.at hP
      have hta := take_all (p := fun o => sr n o Γ (way ++ [(Γ, g)])) ho
      have hvo := hvo.mono hle'
      have hou : o ∈ U := hU.sub f hfU o (List.mem_of_getElem? ho)
      refine wpAny_pure ?_
      refine wpAny_assign_Name (st hS4 fun s5 hS5 => ?_)
      have hN5 := hN'.set (Str.ofString "one") v (.inl rfl)
      refine wpAny_execs_cons (wpAny_Assign_Name (BoolOp_and ?_))
      refine ld hS5 (v := .bool ((f.lefts.take i).all fun o => sr n o Γ (way ++ [(Γ, g)]))) (by walk_at "lk") (wpAny_truthy_bool ?_)
      by_cases hb : ((f.lefts.take i).all fun o => sr n o Γ (way ++ [(Γ, g)])) = true
      · rw [hb, Bool.true_and] at hta
        rw [if_pos hb]
        refine BoolOp_one ?_
        with_reducible refine callF (f := 239) (by kernel_rfl) ?_
        refine is_ldg hS5.toZ0 (by kernel_rfl) (args_cons ?_)
        refine ld hS5 (v := v) (by walk_at "lk") (args_cons ?_)
        refine ld hS5 hN5.table (args_cons ?_)
        refine ld hS5 hN5.known (args_cons ?_)
        refine wpAny_BinOp (ld hS5 hN5.way (mk_list (args_one (ld hS5 hN5.state ⟨_, _, _, _, _, hS5, (by show 1 ≤ sizeLine; decide), fun D2 s6 _ hS6 => ?_⟩))))
        have hwl : wvs.length ≤ 18 := by
          have := hch.len hU.len
          rw [List.length_append] at this
          rw [hway.length]; simp at this; omega
        refine add_own hS6 (vs := wvs) (ws := [sv]) (hS6.z _ _ (hle' _ _ (hle _ _ hW))) (hS6.own' (.head _)) (by rw [sizeLine_eq]; simp; omega) fun Wy2 s7 hWc hS7 => ?_
        have hzW := hS7.zo Wy2 (List.mem_append_right _ (.head _))
        have hS8 := hS7.freeze hWc
        have hle8 : Z''.le (Z''.put Wy2 (W.listOf (wvs ++ [sv]).toArray 0)) := Zone.put_le _ hzW
        have hleA := (hle.trans hle').trans hle8
        refine args_one ?_
        refine ld hS8 hN5.odd ⟨hS8.kin, ?_⟩
        have hS9 := (hS8.sub (List.Sublist.refl _) (.cons _ (.refl _))).perm (l' := (K, W.listOf kvs'.toArray kn') :: (I, io2) :: (D, W.listOf vi.toArray 0) :: l) (List.Perm.swap _ _ _)
        have hdo := hU.dep o hou
        refine IH A c G _ _ _ s7 _ _ K x dx hl Wy2 O tk kvs' tvs (wvs ++ [sv]) kn' tn 0 fs' Γ U (way ++ [(Γ, g)]) v o (hr.le (by omega)) hT hU hS9 (.tail _ (.tail _ hv)) (.tail _ (.tail _ hx)) (.tail _ (.tail _ hd)) Zone.put_self (hvo.mono hle8) hdo.1 (hU.last o hou) (hU.sub o hou) (hkv'.mono hle8) hnd' hsubU' (fun q hq => (hext' q (hΓ q hq)).1) (by rw [hext'.ents hΓ]; exact he.mono hleA)
          ((hway.mono hleA hext').append (.cons (hsv.mono hleA) (by rw [hext'.nums hΓ]; exact hp) hs (fun q hq => (hext' q (hΓ q hq)).1) hch.nd .nil)) hch (by rw [List.length_append]; exact hlen) fun Z3 s9 hle9 hK9 => ?_
        obtain ⟨kvs3, kn3, fs3, hS10, hkv3, hnd3, hsub3, hext3⟩ := hK9
        have hS11 := hS10.perm (l' := (I, io2) :: (K, W.listOf kvs3.toArray kn3) :: (D, W.listOf vi.toArray 0) :: l) (List.Perm.swap _ _ _)
        refine st hS11 fun s12 hS12 => ?_
        refine wpAny_execs_nil ?_
        refine ⟨vi.length - (i + 1), by have : i < vi.length := hlt; omega, jj _ _ ⟨i + 1, _, io2, Z3, rfl, hlt, hJ2, (hle'.trans hle8).trans hle9, ⟨kvs3, kn3, fs3, hS12, hkv3, hnd3, hsub3, hext'.trans hext3⟩, hN5.set _ _ (.inr (.inl rfl)), ?_⟩⟩
        rw [hta]; exact if_pos rfl
      · have hb' : ((f.lefts.take i).all fun o => sr n o Γ (way ++ [(Γ, g)])) = false := by simpa using hb
        rw [hb', Bool.false_and] at hta
        rw [if_neg hb, hb']
        refine st hS5 fun s6 hS6 => ?_
        refine wpAny_execs_nil ?_
        refine ⟨vi.length - (i + 1), by have : i < vi.length := hlt; omega, jj _ _ ⟨i + 1, _, io2, Z'', rfl, hlt, hJ2, hle', ⟨kvs', kn', fs', hS6, hkv', hnd', hsubU', hext'⟩, hN5.set _ _ (.inr (.inl rfl)), ?_⟩⟩
        rw [hta]; exact if_pos rfl
end
noncomputable def prOuter (P : Params) : Stmt := match bodyAt P 239 with
  | _ :: _ :: _ :: _ :: _ :: _ :: a :: _ => a
  | _ => .Pass ⟨0, 0, 0, 0⟩
section
variable {w : World} {c : Ctx0} {G : Array GenState} {Z : Zone} {ns : List (Addr × (Str → Option Value))} {l : List (Addr × Obj)} {s : Shared} {A : Around} {E : Value → Shared → Prop}
theorem take_any {α : Type} {p : α → Bool} {es : List α} {i : Nat} {e : α} (h : es[i]? = some e) : (es.take (i + 1)).any p = ((es.take i).any p || p e) := by
  have e1 : es.take (i + 1) = es.take i ++ [e] := by rw [List.take_add_one, h]; rfl
  rw [e1, List.any_append]; simp
theorem outer_for {n : Nat} {L K hl x dx Wy O D1 : Addr} {tk : Tok} {m : Str → Option Value} {tvs wvs y1 : List Value} {tn wn n1 : Nat} {fs0 Γ U : List Fm} {way : List (List Fm × Str)} {sv : Value} {srt : List Str} {g : Str} {Q : Flow → Shared → Prop} {st' : Stmt} (hst : st' = prOuter w.params)
    (IH : PrOK w n) (hr : Rm A (20 * n + 130)) (hT : c.T = []) (hU : Uni U) (hfs0 : fs0.length ≤ 5) (hK : KnownAt w c G U K fs0 (((prEnv w L).locals, m) :: ns) ((L + 1, cellO (some (.ref D1))) :: l) Z s) (hN : PrNames m K x Wy O sv) (hx : (x, hdI dx) ∈ l) (hd : (dx, hdD w tk hl) ∈ l) (hv : (hl, W.listOf tvs.toArray tn) ∈ l) (h1 : (D1, W.listOf y1.toArray n1) ∈ l)
    (hy1 : StrsV y1 (nums fs0 (toldOf g Γ))) (hW : Z Wy = some (W.listOf wvs.toArray wn)) (hΓ : ∀ g ∈ Γ, g ∈ fs0) (he : EntsAt Z tvs (ents fs0 Γ)) (hway : WayAt Z fs0 wvs way) (hΓU : ∀ f ∈ Γ, f ∈ U) (hΓn : Γ.Nodup)
    (hsv : StateAt Z sv srt g) (hp : srt.Perm (nums fs0 Γ)) (hs : sortedS srt = true) (hch : seen Γ g way = false → Chain U Γ (way ++ [(Γ, g)])) (hlen : 19 ≤ way.length + 1 + n)
    (k : ∀ Z' m' s', Z.le Z' → KnownAt w c G U K fs0 (((prEnv w L).locals, m') :: ns) ((L + 1, cellO (some (.ref D1))) :: l) Z' s' →
      Q (if (!seen Γ g way && (toldOf g Γ).any fun f => f.lefts.all fun o => sr n o Γ (way ++ [(Γ, g)])) = true then .ret (.bool true) else .next) s') :
    wpAny (model PG w) A (exec st' (prEnv w L)) Q E s := by
  subst hst
  obtain ⟨kvs, kn, fs, hS, hkv, hnd, hsubU, hext⟩ := hK
  have hfl : fs.length ≤ 5 := Nat.le_trans (nodup_len hnd hsubU) hU.len
  have hu := hr.ult
  refine wpAny_For ?_ (fun _ => rfl)
  refine wpAny_mono (Q := fun v s' => ∃ Dx yx nx lx Δ, v = .ref Dx ∧ S w c G Z (((prEnv w L).locals, m) :: ns) ((K, W.listOf kvs.toArray kn) :: lx ++ (L + 1, cellO (some (.ref D1))) :: l) s' ∧ (Dx, W.listOf yx.toArray nx) ∈ lx ++ (L + 1, cellO (some (.ref D1))) :: l ∧
    StrsV yx (nums fs0 Δ) ∧ Δ = (if seen Γ g way = true then [] else toldOf g Γ)) ?_ (fun v s2 h2 => ?_) (fun _ _ x => x)
  · refine wpAny_IfExp (wpAny_isTrue_Compare1 (ld hS hN.state (ld hS hN.way ?_)))
    refine in_way hS.z (hS.z _ _ hW) (hway.mono (.refl Z) hext) hsv (by rw [hext.nums hΓ]; exact hp) hs (fun f hf => (hext f (hΓ f hf)).1) hΓn hfl (by omega) (wpAny_truthy_bool ?_)
    by_cases hsn : seen Γ g way = true
    · rw [if_pos hsn, hsn]
      refine mk_list (args_nil ⟨_, _, _, _, _, hS, by decide, fun D3 s3 _ hS3 => ?_⟩)
      exact ⟨D3, [], 0, [(D3, W.listOf [].toArray 0)], [], rfl, hS3.perm (List.Perm.swap _ _ _), .head _, .nil, (if_pos rfl).symm⟩
    · have hsn' : seen Γ g way = false := by simpa using hsn
      rw [if_neg hsn, hsn']
      refine ldc hS (a := L + 1) (v := .ref D1) (.tail _ (.head _)) ?_
      exact ⟨D1, y1, n1, [], _, rfl, hS, .tail _ h1, hy1, (if_neg (by decide)).symm⟩
  · obtain ⟨Dx, yx, nx, lx, Δ, rfl, hS2, hDx, hyx, hΔ⟩ := h2
    have hcond : (!seen Γ g way && (toldOf g Γ).any fun f => f.lefts.all fun o => sr n o Γ (way ++ [(Γ, g)])) = Δ.any fun f => f.lefts.all fun o => sr n o Γ (way ++ [(Γ, g)]) := by
      rw [hΔ]
      by_cases hsn : seen Γ g way = true
      · rw [if_pos hsn, hsn]; rfl
      · rw [if_neg hsn]
        have hsn' : seen Γ g way = false := by simpa using hsn
        rw [hsn']; rfl
    rw [hcond] at k
    have hlen' : yx.length = Δ.length := by rw [hyx.length]; unfold nums; rw [List.length_map]
    have hbig : ∀ {p : Addr × Obj}, p ∈ l → p ∈ lx ++ (L + 1, cellO (some (.ref D1))) :: l := fun h => List.mem_append_right _ (.tail _ h)
    have hsl : ((L + 1, cellO (some (.ref D1))) :: l).Sublist (lx ++ (L + 1, cellO (some (.ref D1))) :: l) := List.sublist_append_right _ _
    refine iter_list hS2 (hS2.own' (.tail _ hDx)) fun I io s3 hne hJ _ hS3 => ?_
    refine forLoopJ (fun k' s' => ∃ i m' io Z'', k' = yx.length - i ∧ i ≤ yx.length ∧ (kList Dx yx).J i io ∧ Z.le Z'' ∧ (∃ (kvs : List Value) (kn : Nat) (fs' : List Fm), S w c G Z'' (((prEnv w L).locals, m') :: ns) ((I, io) :: (K, W.listOf kvs.toArray kn) :: (lx ++ (L + 1, cellO (some (.ref D1))) :: l)) s' ∧ TreesAt Z'' kvs fs' ∧ fs'.Nodup ∧ (∀ g ∈ fs', g ∈ U) ∧ Ext fs0 fs') ∧ PrNames m' K x Wy O sv ∧
      (Δ.take i).any (fun f => f.lefts.all fun o => sr n o Γ (way ++ [(Γ, g)])) = false) ?_ _ ⟨0, m, io, Z, rfl, Nat.zero_le _, hJ, .refl _, ⟨kvs, kn, fs, hS3, hkv, hnd, hsubU, hext⟩, hN, rfl⟩
    intro JJ jj E
    rintro k' s' ⟨i, m', io', Z'', rfl, hi, hJ', hle', ⟨kvs', kn', fs', hS', hkv', hnd', hsubU', hext'⟩, hN', hany⟩
    refine next_it (itr_list hr.handled I Dx hne yx) hS' hJ' hi (isList_of (hS'.own' (.tail _ (.tail _ hDx)))) (fun a ha => by rw [hT] at ha; cases ha) ?_ ?_
    · rintro rfl s4 hS4
      refine wpAny_execs_nil ?_
      have e : (kList Dx yx).n = Δ.length := hlen'
      rw [e, List.take_length] at hany
      have := k Z'' m' s4 hle' ⟨kvs', kn', fs', hS4.sub (.refl _) (hsl.cons_cons _), hkv', hnd', hsubU', hext'⟩
      rw [hany, if_neg (by decide)] at this
      exact this
    · intro hlt v io2 s4 hP hJ2 hS4
      obtain ⟨xs, t, rfl, hxs⟩ := hyx.at hP
      unfold nums at hxs
      rw [List.getElem?_map] at hxs
      obtain ⟨f, hf, rfl⟩ := Option.map_eq_some_iff.mp hxs
      have hfΔ := List.mem_of_getElem? hf
      have hsn' : seen Γ g way = false := by
        cases q : seen Γ g way with
        | false => rfl
        | true => rw [q, if_pos rfl] at hΔ; rw [hΔ] at hfΔ; cases hfΔ
      have hfΓ : f ∈ Γ := by
        rw [hsn', if_neg (by decide)] at hΔ
        rw [hΔ] at hfΔ
        exact (List.mem_filter.mp hfΔ).1
      have hta := take_any (p := fun f => f.lefts.all fun o => sr n o Γ (way ++ [(Γ, g)])) hf
      rw [hany, Bool.false_or] at hta
      refine wpAny_pure ?_
      refine wpAny_assign_Name (st hS4 fun s5 hS5 => ?_)
      refine wpAny_execs_cons (wpAny_Assign_Name (con_bool (st hS5 fun s6 hS6 => ?_)))
      have hN6 := (hN'.set (Str.ofString "spot") (.str (num (fs0.idxOf f)) t) (.inr (.inr rfl))).set (Str.ofString "done") (.bool true) (.inr (.inl rfl))
      have hS7 := hS6.perm (l' := (K, W.listOf kvs'.toArray kn') :: (I, io2) :: (lx ++ (L + 1, cellO (some (.ref D1))) :: l)) (List.Perm.swap _ _ _)
      refine wpAny_execs_cons ?_
      refine inner_for (Γ := Γ) (U := U) (f := f) (sv := sv) (srt := srt) (g := g) (way := way) (fs0 := fs0) (tsp := t) (by kernel_rfl) IH (hr.le (by omega)) hT hU ⟨kvs', kn', fs', hS7, hkv', hnd', hsubU', hext'⟩ hN6 (.tail _ (hbig hx)) (.tail _ (hbig hd)) (.tail _ (hbig hv)) (hle' _ _ hW) (hΓ f hfΓ) hfs0 (by walk_at "lk") (by walk_at "lk") hΓ (hΓU f hfΓ) (he.mono hle') (hway.mono hle' (.refl _)) (hsv.mono hle') hp hs (hch hsn') hlen fun Z3 m3 s8 hle3 hK3 hN3 hd3 => ?_
      obtain ⟨kvs3, kn3, fs3, hS8, hkv3, hnd3, hsub3, hext3⟩ := hK3
      refine wpAny_execs_cons (wpAny_If (isTrue_plain (ld hS8 hd3 (wpAny_truthy_bool ?_))))
      by_cases hb : (f.lefts.all fun o => sr n o Γ (way ++ [(Γ, g)])) = true
      · rw [hb]
        refine wpAny_execs_cons (wpAny_Return_some (con_bool ?_))
        have hfin : (Δ.any fun f => f.lefts.all fun o => sr n o Γ (way ++ [(Γ, g)])) = true := List.any_eq_true.mpr ⟨f, hfΔ, hb⟩
        have := k Z3 m3 s8 (hle'.trans hle3) ⟨kvs3, kn3, fs3, hS8.sub (.refl _) (.cons_cons _ (.cons _ hsl)), hkv3, hnd3, hsub3, hext3⟩
        rw [hfin, if_pos rfl] at this
        exact this
      · have hb' : (f.lefts.all fun o => sr n o Γ (way ++ [(Γ, g)])) = false := by simpa using hb
        rw [hb']
        refine wpAny_execs_nil (wpAny_execs_nil ?_)
        have hS9 := hS8.perm (l' := (I, io2) :: (K, W.listOf kvs3.toArray kn3) :: (lx ++ (L + 1, cellO (some (.ref D1))) :: l)) (List.Perm.swap _ _ _)
        exact ⟨yx.length - (i + 1), by have : i < yx.length := hlt; omega, jj _ _ ⟨i + 1, m3, io2, Z3, rfl, hlt, hJ2, hle'.trans hle3, ⟨kvs3, kn3, fs3, hS9, hkv3, hnd3, hsub3, hext3⟩, hN3, by rw [hta, hb']⟩⟩
end
theorem fold_sub : ∀ (ls Γ : List Fm), ∀ g ∈ Γ, g ∈ ls.foldl addOne Γ
  | [], _, _, h => h
  | f :: ls, Γ, g, h => fold_sub ls (addOne Γ f) g (addOne_sub h)
theorem fold_nd : ∀ (ls Γ : List Fm), Γ.Nodup → (ls.foldl addOne Γ).Nodup
  | [], _, h => h
  | f :: ls, Γ, h => fold_nd ls _ (addOne_nd h)
theorem fold_of : ∀ (ls Γ : List Fm), ∀ g ∈ ls.foldl addOne Γ, g ∈ Γ ∨ g ∈ ls
  | [], _, _, h => .inl h
  | f :: ls, Γ, g, h => by
    rcases fold_of ls _ g h with q | q
    · rcases addOne_of q with q | q
      · exact .inl q
      · exact .inr (q ▸ .head _)
    · exact .inr (.tail _ q)
theorem take_fold {Γ : List Fm} {es : List Fm} {i : Nat} {e : Fm} (h : es[i]? = some e) : (es.take (i + 1)).foldl addOne Γ = addOne ((es.take i).foldl addOne Γ) e := by
  have e1 : es.take (i + 1) = es.take i ++ [e] := by rw [List.take_add_one, h]; rfl
  rw [e1, List.foldl_append]; rfl
noncomputable def prTable (P : Params) : Stmt := match bodyAt P 239 with
  | _ :: a :: _ => a
  | _ => .Pass ⟨0, 0, 0, 0⟩
noncomputable def prLay (P : Params) : Stmt := match bodyAt P 239 with
  | _ :: _ :: a :: _ => a
  | _ => .Pass ⟨0, 0, 0, 0⟩
section
variable {w : World} {c : Ctx0} {G : Array GenState} {Z : Zone} {ns : List (Addr × (Str → Option Value))} {l : List (Addr × Obj)} {s : Shared} {A : Around} {E : Value → Shared → Prop}
theorem len_ok {a : Addr} {vs : Array Value} {n : Nat} {Q : Value → Shared → Prop} (h : S w c G Z ns l s) (ha : s.heap.get? a = some (W.listOf vs n)) (hfit : vs.size ≤ 1000) (hq : ∀ t s', S w c G Z ns l s' → Q (.int vs.size t) s') : wpAny (model PG w) A (call (.builtin "len") [.ref a]) Q E s :=
  len_list (isList_of ha) (by have : ((vs.size : Nat) : Int) ≤ 1000 := by omega
                              omega) (hq _ _ (h.toks _))
/-- names before the table is made -/
structure PrN0 (m : Str → Option Value) (R K Wy O : Addr) : Prop where
  row : m (Str.ofString "row") = some (.ref R)
  known : m (Str.ofString "known") = some (.ref K)
  way : m (Str.ofString "way") = some (.ref Wy)
  odd : m (Str.ofString "odd") = some (.ref O)
theorem PrN0.set {m : Str → Option Value} {R K Wy O : Addr} (h : PrN0 m R K Wy O) (y : Str) (v : Value) (hy : y = Str.ofString "one" ∨ y = Str.ofString "table") : PrN0 (fun z => if z = y then some v else m z) R K Wy O := by
  rcases hy with rfl | rfl <;> exact ⟨got h.row, got h.known, got h.way, got h.odd⟩
/-- if len(row) > 1: a table of one's own -/
theorem table_step {L R K Wy O hl x dx : Addr} {tk : Tok} {m : Str → Option Value} {ri tvs : List Value} {rn tn : Nat} {es : List (Str × Str)} {v : Value} {Q : Flow → Shared → Prop} {st' : Stmt} (hst : st' = prTable w.params) (hr : Rm A 60) (hT : c.T = [])
    (hS : S w c G Z (((prEnv w L).locals, m) :: ns) l s) (hN : PrN0 m R K Wy O) (hm : m (Str.ofString "table") = some (.ref x)) (hR : Z R = some (W.listOf (ri ++ [v]).toArray rn)) (hrl : ri.length ≤ 100)
    (hx : (x, hdI dx) ∈ l) (hd : (dx, hdD w tk hl) ∈ l) (hv : (hl, W.listOf tvs.toArray tn) ∈ l) (he : EntsAt Z tvs es) (hes : ∀ e ∈ es, e.1 ∈ names6 ∧ ∃ j < 8, e.2 = num j) (hn : tvs.length ≤ 1000)
    (k0 : ri = [] → ∀ s', S w c G Z (((prEnv w L).locals, m) :: ns) l s' → Q .next s')
    (k1 : ri ≠ [] → ∀ x2 dx2 hl2 tk2 s', S w c G Z (((prEnv w L).locals, fun y => if y = Str.ofString "table" then some (.ref x2) else m y) :: ns) ((x2, hdI dx2) :: (dx2, hdD w tk2 hl2) :: (hl2, W.listOf tvs.toArray 0) :: l) s' → Q .next s') :
    wpAny (model PG w) A (exec st' (prEnv w L)) Q E s := by
  subst hst
  refine wpAny_If (wpAny_isTrue_Compare1 ?_)
  with_reducible refine callB (id := "len") ?_
  refine is_ldb hS.toZ0 (by kernel_rfl) (by kernel_rfl) (args_one (ld hS hN.row ?_))
  refine len_ok hS (hS.z _ _ hR) (by simp; omega) fun t1 s1 hS1 => ?_
  refine con_int hS1 fun t2 s2 hS2 => gt_int (wpAny_truthy_bool ?_)
  by_cases h0 : ri = []
  · subst h0
    rw [decide_eq_false (by simp)]
    exact wpAny_execs_nil (k0 rfl s2 hS2)
  · have hpos : 0 < ri.length := List.length_pos_iff.mpr h0
    rw [decide_eq_true (by simp; omega)]
    refine wpAny_execs_cons (wpAny_Assign_Name ?_)
    with_reducible refine callF (f := 182) (by kernel_rfl) ?_
    refine is_ldg hS2.toZ0 (by kernel_rfl) (args_one ?_)
    with_reducible refine callM (f := 146) ?_
    refine ld hS2 hm ⟨x, dx, hl, tk, rfl, hS2.kin, hS2.own' hx, hS2.own' hd, ?_⟩
    with_reducible refine argsM0 (by kernel_rfl) ⟨hS2.kin, ?_⟩
    refine items_ok (hr.le (by omega)) hS2 (hS2.own' hx) (hS2.own' hd) (hS2.own' hv) (by rw [sizeLine_eq]; omega) hx hd hv fun D s3 hD hS3 => ⟨hS3.kin, ?_⟩
    refine make1 (hr.le (by omega)) hS3 (fun a ha => by rw [hT] at ha; cases ha) he (fun e h => ⟨finds_name _ (hes e h).1, ?_⟩) (by omega) fun x2 dx2 tk2 s4 _ _ hS4 => ?_
    · obtain ⟨j, hj, e2⟩ := (hes e h).2
      rw [e2]; exact finds_num j hj
    refine st hS4 fun s5 hS5 => wpAny_execs_nil (k1 h0 x2 dx2 D tk2 s5 hS5)
inductive LyI (w : World) (c : Ctx0) (G : Array GenState) (Z : Zone) (ns : List (Addr × (Str → Option Value))) (l : List (Addr × Obj)) (L I D R K Wy O hl x dx : Addr) (tk : Tok) (ri : List Value) (fs Γ U ls : List Fm) (k' : Nat) (s' : Shared) : Prop
  | mk (i : Nat) (m' : Str → Option Value) (io : Obj) (Z' : Zone) (kvs' tvs' : List Value) (kn' tn' : Nat) (fs' : List Fm) (h1 : k' = ri.length - i) (h2 : i ≤ ri.length) (h3 : (kList D ri).J i io) (h4 : Z.le Z') (h5 : TreesAt Z' kvs' fs') (h6 : fs'.Nodup) (h7 : ∀ g ∈ fs', g ∈ U) (h8 : Ext fs fs') (h9 : ∀ g ∈ (ls.take i).foldl addOne Γ, g ∈ fs')
      (h10 : EntsAt Z' tvs' (ents fs' ((ls.take i).foldl addOne Γ))) (h11 : PrN0 m' R K Wy O) (h12 : m' (Str.ofString "table") = some (.ref x))
      (hS : S w c G Z' (((prEnv w L).locals, m') :: ns) ((I, io) :: (D, W.listOf ri.toArray 0) :: (K, W.listOf kvs'.toArray kn') :: (hl, W.listOf tvs'.toArray tn') :: (x, hdI dx) :: (dx, hdD w tk hl) :: l) s') : LyI w c G Z ns l L I D R K Wy O hl x dx tk ri fs Γ U ls k' s'
/-- for one in row[:-1]: .. -/
theorem lay_step {L R K Wy O hl x dx : Addr} {tk : Tok} {m : Str → Option Value} {kvs ri tvs : List Value} {kn rn tn : Nat} {fs Γ U ls : List Fm} {v : Value} {Q : Flow → Shared → Prop} {st' : Stmt} (hst : st' = prLay w.params) (hr : Rm A 70) (hT : c.T = []) (hU : Uni U) (hfU : ∀ g ∈ fs, g ∈ U) (hfn : fs.Nodup) (hΓ : ∀ g ∈ Γ, g ∈ fs) (hΓn : Γ.Nodup) (hls : ∀ f ∈ ls, f ∈ U)
    (hS : S w c G Z (((prEnv w L).locals, m) :: ns) ((K, W.listOf kvs.toArray kn) :: (hl, W.listOf tvs.toArray tn) :: (x, hdI dx) :: (dx, hdD w tk hl) :: l) s)
    (hN : PrN0 m R K Wy O) (hm : m (Str.ofString "table") = some (.ref x)) (hR : Z R = some (W.listOf (ri ++ [v]).toArray rn)) (hrl : ri.length ≤ 100) (hri : TreesAt Z ri ls) (hvs : TreesAt Z kvs fs) (he : EntsAt Z tvs (ents fs Γ))
    (k : ∀ Z' kvs' kn' tvs' tn' fs' m' s', Z.le Z' → TreesAt Z' kvs' fs' → fs'.Nodup → (∀ g ∈ fs', g ∈ U) → Ext fs fs' → (∀ g ∈ ls.foldl addOne Γ, g ∈ fs') → EntsAt Z' tvs' (ents fs' (ls.foldl addOne Γ)) → PrN0 m' R K Wy O → m' (Str.ofString "table") = some (.ref x) →
      S w c G Z' (((prEnv w L).locals, m') :: ns) ((K, W.listOf kvs'.toArray kn') :: (hl, W.listOf tvs'.toArray tn') :: (x, hdI dx) :: (dx, hdD w tk hl) :: l) s' → Q .next s') :
    wpAny (model PG w) A (exec st' (prEnv w L)) Q E s := by
  subst hst
  refine wpAny_For ?_ (fun _ => rfl)
  with_reducible refine sl_listE ?_
  refine ld hS hN.row (part_none (part_some (minus_one hS fun t1 s1 hS1 => ?_)))
  refine ⟨R, _, rn, none, some (-1, t1), rfl, rfl, rfl, c, G, Z, _, _, hS1, hS1.z _ _ hR, (by rw [List.length_append, sizeLine_eq]; simp; omega), fun D s2 hD hS2 => ?_⟩
  rw [show slicePick (ri ++ [v]).toArray (Option.map (·.1) (none : Option (Int × Tok))) (Option.map (·.1) (some ((-1 : Int), t1))) none = ri.toArray from pick_butlast ri _] at hS2
  refine iter_list hS2 (hS2.own' (.head _)) fun I io s3 hne hJ _ hS3 => ?_
  refine forLoopJ (LyI w c G Z ns l L I D R K Wy O hl x dx tk ri fs Γ U ls) ?_ _ ⟨0, m, io, Z, kvs, tvs, kn, tn, fs, rfl, Nat.zero_le _, hJ, .refl _, hvs, hfn, hfU, .refl _, hΓ, he, hN, hm, hS3⟩
  intro JJ jj E
  rintro k' s' ⟨i, m', io', Z', kvs', tvs', kn', tn', fs', rfl, hi, hJ', hle, hvs', hfn', hfU', hext, hΓ', he', hN', hm', hS'⟩
  refine next_it (itr_list hr.handled I D hne ri) hS' hJ' hi (isList_of (hS'.own' (.tail _ (.head _)))) (fun a ha => by rw [hT] at ha; cases ha) ?_ ?_
  · rintro rfl s4 hS4
    refine wpAny_execs_nil ?_
    have e : (kList D ri).n = ls.length := hri.length
    rw [e, List.take_length] at hΓ' he'
    exact k Z' kvs' kn' tvs' tn' fs' m' s4 hle hvs' hfn' hfU' hext hΓ' he' hN' hm' (hS4.sub (.refl _) (.cons _ (.refl _)))
  · intro hlt u io2 s4 hP hJ2 hS4
    obtain ⟨f, hf, hu⟩ := hri.at hP
    have hfmem := List.mem_of_getElem? hf
    have htf := take_fold (Γ := Γ) hf
    refine wpAny_pure ?_
    refine wpAny_assign_Name (st hS4 fun s5 hS5 => ?_)
    have hS6 := hS5.perm (l' := (K, W.listOf kvs'.toArray kn') :: (hl, W.listOf tvs'.toArray tn') :: (x, hdI dx) :: (dx, hdD w tk hl) :: (I, io2) :: (D, W.listOf ri.toArray 0) :: l) (by
      have p := List.perm_middle (a := (I, io2)) (l₁ := [(D, W.listOf ri.toArray 0), (K, W.listOf kvs'.toArray kn'), (hl, W.listOf tvs'.toArray tn'), (x, hdI dx), (dx, hdD w tk hl)]) (l₂ := l)
      have q := List.perm_middle (a := (D, W.listOf ri.toArray 0)) (l₁ := [(K, W.listOf kvs'.toArray kn'), (hl, W.listOf tvs'.toArray tn'), (x, hdI dx), (dx, hdD w tk hl)]) (l₂ := (I, io2) :: l)
      have r := List.perm_middle (a := (I, io2)) (l₁ := [(K, W.listOf kvs'.toArray kn'), (hl, W.listOf tvs'.toArray tn'), (x, hdI dx), (dx, hdD w tk hl)]) (l₂ := (D, W.listOf ri.toArray 0) :: l)
      have r2 := (List.perm_middle (a := (D, W.listOf ri.toArray 0)) (l₁ := [(K, W.listOf kvs'.toArray kn'), (hl, W.listOf tvs'.toArray tn'), (x, hdI dx), (dx, hdD w tk hl)]) (l₂ := l)).cons (I, io2)
      exact r.trans r2)
    refine add_turn (f := f) (v := u) (Γ := (ls.take i).foldl addOne Γ) (U := U) (by kernel_rfl) hU hfU' hfn' hΓ' (fold_nd _ _ hΓn) (hls f hfmem) (hr.le (by omega)) hT hS6 (got hN'.known) put (got hm') (hu.mono hle) hvs' he' fun Z2 kvs2 kn2 tvs2 tn2 s7 hle2 hvs2 he2 hS7 => ?_
    refine ⟨ri.length - (i + 1), by have : i < ri.length := hlt; omega, jj _ _ ⟨i + 1, _, io2, Z2, kvs2, tvs2, kn2, tn2, addOne fs' f, rfl, hlt, hJ2, hle.trans hle2, hvs2, addOne_nd hfn', fun g hg => (addOne_of hg).elim (hfU' g) (fun e => e ▸ hls f hfmem), hext.trans (.addOne fs' f), ?_, ?_, hN'.set (Str.ofString "one") u (.inl rfl), got hm', ?_⟩⟩
    · rw [htf]; intro g hg
      rcases addOne_of hg with q | q
      · exact addOne_sub (hΓ' g q)
      · rw [q]; exact addOne_mem
    · rw [htf]; exact he2
    · refine hS7.perm ?_
      have r := List.perm_middle (a := (I, io2)) (l₁ := [(K, W.listOf kvs2.toArray kn2), (hl, W.listOf tvs2.toArray tn2), (x, hdI dx), (dx, hdD w tk hl)]) (l₂ := (D, W.listOf ri.toArray 0) :: l)
      have r2 := (List.perm_middle (a := (D, W.listOf ri.toArray 0)) (l₁ := [(K, W.listOf kvs2.toArray kn2), (hl, W.listOf tvs2.toArray tn2), (x, hdI dx), (dx, hdD w tk hl)]) (l₂ := l)).cons (I, io2)
      exact (r.trans r2).symm
end
noncomputable def prTail (P : Params) : List Stmt := match bodyAt P 239 with
  | _ :: _ :: _ :: r => r
  | _ => []
section
variable {w : World} {c : Ctx0} {G : Array GenState} {Z : Zone} {ns : List (Addr × (Str → Option Value))} {l : List (Addr × Obj)} {s : Shared} {A : Around} {E : Value → Shared → Prop}
theorem ents_ok {fs Γ U : List Fm} (hU : Uni U) (hl : fs.length ≤ 5) (h : ∀ g ∈ Γ, g ∈ fs) (hU' : ∀ g ∈ fs, g ∈ U) : ∀ e ∈ ents fs Γ, e.1 ∈ names6 ∧ ∃ j < 8, e.2 = num j := fun e he => by
  obtain ⟨g, hg, rfl⟩ := List.mem_map.mp he
  exact ⟨hU.last g (hU' g (h g hg)), _, by have := List.idxOf_lt_length_iff.mpr (h g hg); omega, rfl⟩
/-- what stands behind the laying -/
theorem pr_tail {n : Nat} {L R K hl x dx Wy O : Addr} {tk : Tok} {m : Str → Option Value} {kvs tvs wvs ri : List Value} {kn tn wn rn : Nat} {fs Γ U : List Fm} {way : List (List Fm × Str)} {nm : Str} {tnm : Tok} {Q : Flow → Shared → Prop} {body : List Stmt} (hbd : body = prTail w.params)
    (IH : PrOK w n) (hr : Rm A (20 * n + 130)) (hT : c.T = []) (hU : Uni U) (hS : S w c G Z (((prEnv w L).locals, m) :: ns) ((L + 1, cellO none) :: (K, W.listOf kvs.toArray kn) :: l) s) (hN : PrN0 m R K Wy O) (hm : m (Str.ofString "table") = some (.ref x))
    (hx : (x, hdI dx) ∈ l) (hd : (dx, hdD w tk hl) ∈ l) (hv : (hl, W.listOf tvs.toArray tn) ∈ l) (hR : Z R = some (W.listOf (ri ++ [Value.str nm tnm]).toArray rn)) (hnm : nm ∈ names6)
    (hW : Z Wy = some (W.listOf wvs.toArray wn)) (hvs : TreesAt Z kvs fs) (hfn : fs.Nodup) (hfU : ∀ g ∈ fs, g ∈ U) (hΓ : ∀ g ∈ Γ, g ∈ fs) (hΓn : Γ.Nodup) (he : EntsAt Z tvs (ents fs Γ)) (hway : WayAt Z fs wvs way)
    (hch : seen Γ (low nm) way = false → Chain U Γ (way ++ [(Γ, low nm)])) (hlen : 19 ≤ way.length + 1 + n)
    (k : ∀ Z' L' m' s', Z.le Z' → KnownAt w c G U K fs ((L', m') :: ns) l Z' s' →
      Q (.ret (.bool (!seen Γ (low nm) way && (toldOf (low nm) Γ).any fun f => f.lefts.all fun o => sr n o Γ (way ++ [(Γ, low nm)])))) s') :
    wpAny (model PG w) A (execs body (prEnv w L)) Q E s := by
  subst hbd
  have hfl : fs.length ≤ 5 := Nat.le_trans (nodup_len hfn hfU) hU.len
  have hΓl : Γ.length ≤ 5 := Nat.le_trans (nodup_len hΓn (fun g hg => hfU g (hΓ g hg))) hU.len
  have htl : tvs.length ≤ 5 := by rw [he.length]; unfold ents; rw [List.length_map]; exact hΓl
  have hes := ents_ok hU hfl hΓ hfU
  refine wpAny_execs_cons ?_
  refine told_step (by kernel_rfl) (hr.le (by omega)) hT hS hN.row hm hR hnm (.tail _ hx) (.tail _ hd) (.tail _ hv) he (fun e h => (hes e h).1) (by omega) fun D1 y1 n1 D2 y2 n2 s1 hy1 hy2 hS1 => ?_
  have e1 : ((ents fs Γ).filter fun e => Txt.lower e.1 == Txt.lower nm).map (·.2) = nums fs (toldOf (low nm) Γ) := filter_ents Txt.lower (Txt.lower nm) fs Γ
  rw [e1] at hy1
  rw [ents_vals] at hy2
  refine wpAny_execs_cons ?_
  refine odd_step (by kernel_rfl) (hr.le (by omega)) hT hS1 put hy1 hy2 (told_again hfl hΓ) (by rw [hy2.length]; unfold nums; rw [List.length_map]; omega) fun s2 hS2 => ?_
  refine wpAny_execs_cons ?_
  refine state_step (by kernel_rfl) (hr.le (by omega)) hT hS2 (got hN.row) put hR hnm (.tail _ (.tail _ (.head _))) hy2 (by rw [hy2.length]; unfold nums; rw [List.length_map]; omega) fun Z' sv srt s3 hle hperm hsorted hsv hS3 => ?_
  refine wpAny_execs_cons ?_
  have hS4 := hS3.perm (l' := (K, W.listOf kvs.toArray kn) :: (L + 1, cellO (some (.ref D1))) :: (D1, W.listOf y1.toArray n1) :: (D2, W.listOf y2.toArray n2) :: l)
    ((List.perm_middle (a := (K, W.listOf kvs.toArray kn)) (l₁ := [(L + 1, cellO (some (.ref D1))), (D1, W.listOf y1.toArray n1), (D2, W.listOf y2.toArray n2)]) (l₂ := l)).symm)
  refine outer_for (Γ := Γ) (U := U) (fs0 := fs) (D1 := D1) (n1 := n1) (l := (D1, W.listOf y1.toArray n1) :: (D2, W.listOf y2.toArray n2) :: l) (by kernel_rfl) IH (hr.le (by omega)) hT hU hfl ⟨kvs, kn, fs, hS4, hvs.mono hle, hfn, hfU, .refl _⟩
    (K := K) (x := x) (Wy := Wy) (O := O) (sv := sv) ⟨got (got hN.known), got (got hm), got (got hN.way), got (got hN.odd), put⟩ (.tail _ (.tail _ hx)) (.tail _ (.tail _ hd)) (.tail _ (.tail _ hv)) (.head _) hy1 (hle _ _ hW) hΓ (he.mono hle) (hway.mono hle (.refl _)) (fun g hg => hfU g (hΓ g hg)) hΓn hsv hperm hsorted hch hlen fun Z2 m2 s5 hle2 hK5 => ?_
  obtain ⟨kvs3, kn3, fs3, hS5, hkv3, hnd3, hsub3, hext3⟩ := hK5
  by_cases hb : (!seen Γ (low nm) way && (toldOf (low nm) Γ).any fun f => f.lefts.all fun o => sr n o Γ (way ++ [(Γ, low nm)])) = true
  · rw [if_pos hb]
    have := k Z2 _ m2 s5 (hle.trans hle2) ⟨kvs3, kn3, fs3, hS5.sub (.refl _) (.cons_cons _ (.cons _ (.cons _ (.cons _ (.refl _))))), hkv3, hnd3, hsub3, hext3⟩
    rw [hb] at this
    exact this
  · rw [if_neg hb]
    refine wpAny_execs_cons (wpAny_Return_some (con_bool ?_))
    have := k Z2 _ m2 s5 (hle.trans hle2) ⟨kvs3, kn3, fs3, hS5.sub (.refl _) (.cons_cons _ (.cons _ (.cons _ (.cons _ (.refl _))))), hkv3, hnd3, hsub3, hext3⟩
    rw [Bool.not_eq_true] at hb
    rw [hb] at this
    exact this
end
theorem sr_succ (n : Nat) (t : Fm) (Γ : List Fm) (way : List (List Fm × Str)) : sr (n + 1) t Γ way = (!seen (t.lefts.foldl addOne Γ) (low t.last) way && (toldOf (low t.last) (t.lefts.foldl addOne Γ)).any fun f => f.lefts.all fun o => sr n o (t.lefts.foldl addOne Γ) (way ++ [(t.lefts.foldl addOne Γ, low t.last)])) := rfl
theorem lay_nil {w : World} {c : Ctx0} {G : Array GenState} {Z : Zone} {ns : List (Addr × (Str → Option Value))} {l : List (Addr × Obj)} {s : Shared} {A : Around} {E : Value → Shared → Prop} {L R K Wy O : Addr} {m : Str → Option Value} {rn : Nat} {v : Value} {Q : Flow → Shared → Prop} {st' : Stmt} (hst : st' = prLay w.params) (hr : Rm A 70) (hT : c.T = [])
    (hS : S w c G Z (((prEnv w L).locals, m) :: ns) l s) (hN : PrN0 m R K Wy O) (hR : Z R = some (W.listOf ([] ++ [v]).toArray rn)) (k : ∀ s', S w c G Z (((prEnv w L).locals, m) :: ns) l s' → Q .next s') : wpAny (model PG w) A (exec st' (prEnv w L)) Q E s := by
  subst hst
  refine wpAny_For ?_ (fun _ => rfl)
  with_reducible refine sl_listE ?_
  refine ld hS hN.row (part_none (part_some (minus_one hS fun t1 s1 hS1 => ?_)))
  refine ⟨R, _, rn, none, some (-1, t1), rfl, rfl, rfl, c, G, Z, _, _, hS1, hS1.z _ _ hR, (by show 1 ≤ sizeLine; decide), fun D s2 hD hS2 => ?_⟩
  have hS2 : S w c G Z (((prEnv w L).locals, m) :: ns) ((D, W.listOf ([] : List Value).toArray 0) :: l) s2 := by
    rw [← pick_butlast [] v]; exact hS2
  refine iter_list hS2 (hS2.own' (.head _)) fun I io s3 hne hJ _ hS3 => ?_
  refine codeAny_forLoop_any (fun k' s' => S w c G Z (((prEnv w L).locals, m) :: ns) ((I, io) :: (D, W.listOf ([] : List Value).toArray 0) :: l) s') ?_ 0 hS3
  intro k' s' hS'
  refine next_it (itr_list hr.handled I D hne []) hS' hJ (Nat.zero_le _) (isList_of (hS'.own' (.tail _ (.head _)))) (fun a ha => by rw [hT] at ha; cases ha) ?_ ?_
  · rintro _ s4 hS4
    exact wpAny_execs_nil (k s4 (hS4.sub (.refl _) (.cons _ (.refl _))))
  · intro hlt; exact absurd hlt (Nat.lt_irrefl 0)
theorem pr_step {w : World} {n : Nat} (IH : PrOK w n) : PrOK w (n + 1) := by
  intro A c G Z ns l s E Q K x dx hl Wy O tk kvs tvs wvs kn tn wn fs Γ U way v t hr hT hU hS hv hx hd hW ht htd htl hlU hvs hfn hfU hΓ he hway hch hlen k
  have h1 : (KF w).lookup 239 = some (obAt w.params 239) := by kernel_rfl
  have h2 : (obAt w.params 239).data = .func (fdAt w.params 239) := by kernel_rfl
  have h3 : codeIn (KF w) (fdAt w.params 239).code (fdAt w.params 239).qualname = true := by kernel_rfl
  have h4 : (fdAt w.params 239).body = .stmts (bodyAt w.params 239) := by kernel_rfl
  have h5 : bindArgs (fdAt w.params 239) ⟨[v, .ref x, .ref K, .ref Wy, .ref O], []⟩ = pure [(Str.ofString "tree", v), (Str.ofString "table", .ref x), (Str.ofString "known", .ref K), (Str.ofString "way", .ref Wy), (Str.ofString "odd", .ref O)] := by kernel_rfl
  refine wpAny_call ?_
  with_reducible refine enterI (fun y => if y = Str.ofString "odd" then some (.ref O) else (fun y => if y = Str.ofString "way" then some (.ref Wy) else (fun y => if y = Str.ofString "known" then some (.ref K) else (fun y => if y = Str.ofString "table" then some (.ref x) else (fun y => if y = Str.ofString "tree" then some v else none) y) y) y) y) (fun L => [(L + 1, cellO none)]) (n := 20 * n + 139) (hr.le (by omega)) hS.kin hS h1 h2 h3 h4 (bind_pure h5) (by kernel_rfl) (by kernel_rfl) ?_
  intro L s1 hS1 hLc hr1
  have hfl : fs.length ≤ 5 := Nat.le_trans (nodup_len hfn hfU) hU.len
  have hΓl : Γ.length ≤ 5 := Nat.le_trans (nodup_len hch.nd (fun g hg => hfU g (hΓ g hg))) hU.len
  have htvl : tvs.length ≤ 5 := by rw [he.length]; unfold ents; rw [List.length_map]; exact hΓl
  refine wpAny_execs_cons (wpAny_Assign_Name ?_)
  with_reducible refine callF (f := 234) (by kernel_rfl) ?_
  refine is_ldg hS1.toZ0 (by kernel_rfl) (args_one (ld hS1 (v := v) (by walk_at "lk") ⟨hS1.kin, ?_⟩))
  refine spread_ok (hr1.le (by omega)) hS1.toZ0 ht (by omega) fun R rvs rn s2 Z2 hZ2 hR hrv => ?_
  have hS2 := hS1.back hZ2 (fun a ha => by rw [hT] at ha; cases ha)
  have hle : Z.le Z2 := hZ2.zle
  rw [t.spread_eq] at hrv
  obtain ⟨ri, tl, rfl, hri⟩ := hrv.snoc_inv
  have hrl : ri.length ≤ 5 := by rw [hri.length]; have := congrArg List.length t.spread_eq; rw [Fm.spread_length, List.length_append] at this; simp at this; omega
  refine st hS2 fun s3 hS3 => ?_
  have hN3 : PrN0 (fun y => if y = Str.ofString "row" then some (.ref R) else (fun y => if y = Str.ofString "odd" then some (.ref O) else (fun y => if y = Str.ofString "way" then some (.ref Wy) else (fun y => if y = Str.ofString "known" then some (.ref K) else (fun y => if y = Str.ofString "table" then some (.ref x) else (fun y => if y = Str.ofString "tree" then some v else none) y) y) y) y) y) R K Wy O := ⟨put, by walk_at "lk", by walk_at "lk", by walk_at "lk"⟩
  have hes := ents_ok hU hfl hΓ hfU
  have hΓ'U : ∀ g ∈ t.lefts.foldl addOne Γ, g ∈ U := fun g hg => (fold_of _ _ g hg).elim (hch.hU g) (hlU g)
  have hΓ'n := fold_nd t.lefts Γ hch.nd
  have hch' : seen (t.lefts.foldl addOne Γ) (low t.last) way = false → Chain U (t.lefts.foldl addOne Γ) (way ++ [(t.lefts.foldl addOne Γ, low t.last)]) := fun hs => hch.step (fold_sub _ _) hΓ'U hΓ'n (low_in htl) hs
  refine wpAny_execs_cons ?_
  refine table_step (by kernel_rfl) (hr1.le (by omega)) hT hS3 hN3 (by walk_at "lk") hR (by omega) (.tail _ (.tail _ hx)) (.tail _ (.tail _ hd)) (.tail _ (.tail _ hv)) (he.mono hle) hes (by omega) ?_ ?_
  · rintro rfl s4 hS4
    have hl0 : t.lefts = [] := by cases hq : t.lefts with | nil => rfl | cons _ _ => rw [hq] at hri; cases hri
    rw [hl0] at hΓ'U hΓ'n hch'
    refine wpAny_execs_cons ?_
    refine lay_nil (by kernel_rfl) (hr1.le (by omega)) hT hS4 hN3 hR fun s5 hS5 => ?_
    refine pr_tail (n := n) (Γ := Γ) (U := U) (l := l) (by kernel_rfl) IH (hr1.le (by omega)) hT hU hS5 hN3 (by walk_at "lk") hx hd hv hR htl (hle _ _ hW) (hvs.mono hle) hfn hfU hΓ hch.nd (he.mono hle) (hway.mono hle (.refl _)) hch' (by omega) fun Z' L' m' s6 hle6 hK6 => ?_
    obtain ⟨kvs3, kn3, fs3, hS6, hkv3, hnd3, hsub3, hext3⟩ := hK6
    have := k Z' s6 (hle.trans hle6) ⟨kvs3, kn3, fs3, hS6.sub (.cons _ (.refl _)) (.refl _), hkv3, hnd3, hsub3, hext3⟩
    rw [sr_succ, hl0] at this
    exact this
  · intro h0 x2 dx2 hl2 tk2 s4 hS4
    have hS5 := hS4.perm (l' := (K, W.listOf kvs.toArray kn) :: (hl2, W.listOf tvs.toArray 0) :: (x2, hdI dx2) :: (dx2, hdD w tk2 hl2) :: (L + 1, cellO none) :: l) (by
      have p1 := List.perm_middle (a := (K, W.listOf kvs.toArray kn)) (l₁ := [(x2, hdI dx2), (dx2, hdD w tk2 hl2), (hl2, W.listOf tvs.toArray 0), (L + 1, cellO none)]) (l₂ := l)
      have p2 := (List.perm_middle (a := (hl2, W.listOf tvs.toArray 0)) (l₁ := [(x2, hdI dx2), (dx2, hdD w tk2 hl2)]) (l₂ := (L + 1, cellO none) :: l)).cons (K, W.listOf kvs.toArray kn)
      exact (p1.trans p2).symm)
    refine wpAny_execs_cons ?_
    have hN5 := hN3.set (Str.ofString "table") (.ref x2) (.inr rfl)
    refine lay_step (U := U) (ls := t.lefts) (by kernel_rfl) (hr1.le (by omega)) hT hU hfU hfn hΓ hch.nd hlU hS5 hN5 put hR (by omega) hri (hvs.mono hle) (he.mono hle) fun Z3 kvs3 kn3 tvs3 tn3 fs3 m3 s6 hle3 hvs3 hfn3 hfU3 hext3 hΓ3 he3 hN3' hm3 hS6 => ?_
    have hS7 := hS6.perm (l' := (L + 1, cellO none) :: (K, W.listOf kvs3.toArray kn3) :: (hl2, W.listOf tvs3.toArray tn3) :: (x2, hdI dx2) :: (dx2, hdD w tk2 hl2) :: l)
      (List.perm_middle (a := (L + 1, cellO none)) (l₁ := [(K, W.listOf kvs3.toArray kn3), (hl2, W.listOf tvs3.toArray tn3), (x2, hdI dx2), (dx2, hdD w tk2 hl2)]) (l₂ := l)).symm
    refine pr_tail (n := n) (Γ := t.lefts.foldl addOne Γ) (U := U) (l := (hl2, W.listOf tvs3.toArray tn3) :: (x2, hdI dx2) :: (dx2, hdD w tk2 hl2) :: l) (by kernel_rfl) IH (hr1.le (by omega)) hT hU hS7 hN3' hm3 (.tail _ (.head _)) (.tail _ (.tail _ (.head _))) (.head _) (hle3 _ _ hR) htl (hle3 _ _ (hle _ _ hW)) hvs3 hfn3 hfU3 hΓ3 hΓ'n he3 (hway.mono (hle.trans hle3) hext3) hch' (by omega) fun Z' L' m' s8 hle8 hK8 => ?_
    obtain ⟨kvs4, kn4, fs4, hS8, hkv4, hnd4, hsub4, hext4⟩ := hK8
    have := k Z' s8 ((hle.trans hle3).trans hle8) ⟨kvs4, kn4, fs4, hS8.sub (.cons _ (.refl _)) (.cons_cons _ (.cons _ (.cons _ (.cons _ (.refl _))))), hkv4, hnd4, hsub4, hext3.trans hext4⟩
    rw [sr_succ] at this
    exact this
theorem pr_zero {w : World} : PrOK w 0 := by
  intro A c G Z ns l s E Q K x dx hl Wy O tk kvs tvs wvs kn tn wn fs Γ U way v t hr hT hU hS hv hx hd hW ht htd htl hlU hvs hfn hfU hΓ he hway hch hlen k
  have := hch.len hU.len
  omega
theorem proved_ok {w : World} : ∀ n, PrOK w n
  | 0 => pr_zero
  | n + 1 => pr_step (proved_ok n)
inductive NatsV : List Value → List Nat → Prop
  | nil : NatsV [] []
  | cons (x : Nat) (t : Tok) {vs xs} : NatsV vs xs → NatsV (.int (x : Int) t :: vs) (x :: xs)
theorem NatsV.append {vs ws : List Value} {xs ys : List Nat} (h : NatsV vs xs) (k : NatsV ws ys) : NatsV (vs ++ ws) (xs ++ ys) := by
  induction h with
  | nil => exact k
  | cons x t _ ih => exact .cons x t ih
theorem NatsV.snoc {vs : List Value} {xs : List Nat} (h : NatsV vs xs) (x : Nat) (t : Tok) : NatsV (vs ++ [.int (x : Int) t]) (xs ++ [x]) := h.append (.cons x t .nil)
theorem NatsV.length {vs : List Value} {xs : List Nat} (h : NatsV vs xs) : vs.length = xs.length := by
  induction h with
  | nil => rfl
  | cons _ _ _ ih => simp [ih]
theorem NatsV.get {vs : List Value} {xs : List Nat} (h : NatsV vs xs) : ∀ (i : Nat), i < xs.length → ∃ t, vs[i]? = some (.int (xs.getD i 0 : Nat) t) := by
  induction h with
  | nil => intro i hi; simp at hi
  | cons x t _ ih =>
    intro i hi
    cases i with
    | zero => exact ⟨t, rfl⟩
    | succ i => obtain ⟨u, e⟩ := ih i (by simpa using hi); exact ⟨u, by simpa using e⟩
theorem NatsV.are {vs : List Value} {xs : List Nat} (h : NatsV vs xs) : IntsAre vs (xs.map fun (n : Nat) => (n : Int)) := by
  induction h with
  | nil => exact .nil
  | cons x t _ ih => exact .cons x t ih
theorem sum_cast : ∀ xs : List Nat, (xs.map fun (n : Nat) => (n : Int)).sum = ((xs.sum : Nat) : Int)
  | [] => rfl
  | x :: xs => by rw [List.map_cons, List.sum_cons, List.sum_cons, sum_cast xs]; omega
section
variable {w : World} {c : Ctx0} {G : Array GenState} {Z : Zone} {ns : List (Addr × (Str → Option Value))} {l : List (Addr × Obj)} {s : Shared} {A : Around} {E Q : Value → Shared → Prop}
/-- sum of a list of numbers -/
theorem sum_nats {D : Addr} {vs : List Value} {xs : List Nat} {n : Nat} (hh : A.handled = none) (h : S w c G Z ns l s) (hD : s.heap.get? D = some (W.listOf vs.toArray n)) (hx : NatsV vs xs) (hq : ∀ t s', S w c G Z ns l s' → Q (.int (xs.sum : Nat) t) s') : wpAny (model PG w) A (call (.builtin "sum") [.ref D]) Q E s := by
  obtain ⟨is, his⟩ := hx.are.allInts.items
  have hl := isList_of hD
  rw [his] at hl
  refine sum_intListG hh hl fun h' tk t' hk => ?_
  have e : preSum (numAt is) is.size = ((xs.sum : Nat) : Int) := by
    rw [← sum_cast, ← hx.are.numsOf, show vs = vs.toArray.toList from rfl, his, nums_intItems, preSum_eq, List.take_of_length_le (by simp)]
  rw [e]
  exact hq t' _ ((h.heapK hk).toks tk)
noncomputable abbrev rangeO (a b c : Int) (t u v : Tok) : Obj := { cls := .type "range", data := .fields #[.int a t, .int b u, .int c v] }
/-- iter(range(n)) -/
theorem iter_range1 {n : Nat} {t : Tok} {Q : Value → Shared → Prop} (h : S w c G Z ns l s) (hn : n ≤ 10000)
    (k : ∀ r ro s1, S w c G Z ns ((r, ro) :: l) s1 → (∀ (Q' : Value → Shared → Prop) (E' : Value → Shared → Prop) s2 l2 ns2 Z2 G2, S w c G2 Z2 ns2 l2 s2 → (r, ro) ∈ l2 → (∀ I io s', (kRange 0 n).J 0 io → c.sc.heap.get? I = none → S w c G2 Z2 ns2 ((I, io) :: l2) s' → Q' (.ref I) s') → wpAny (model PG w) A (pyIter (.ref r)) Q' E' s2) → Q (.ref r) s1) :
    wpAny (model PG w) A (call (.type "range") [.int n t]) Q E s := by
  refine call_range_1 ?_
  refine k _ (rangeO 0 n 1 s.toks t (s.toks + 1)) _ ((h.push _ rfl).toks _) ?_
  intro Q' E' s2 l2 ns2 Z2 G2 h2 hm hq
  refine wpAny_pyIter_range (h2.own' hm) (small_one (by omega) (by omega) (by omega) (by omega)) ?_
  refine hq _ _ _ ?_ h2.new (h2.push _ rfl)
  have hsz : Builtin.Range.rangeSize 0 (n : Int) 1 = (n : Int) := by rw [rangeSize_one]; split <;> omega
  show _ = _
  rw [hsz]
  simp
end
/-! ### the worlds -/
noncomputable def arrowW (above : List Nat) (L R : Nat) : Nat := (((List.range above.length).filter fun k => ((above.getD k 0 &&& L) &&& R) == (above.getD k 0 &&& L)).map fun k => 2 ^ k).sum
noncomputable def wl (above : List Nat) (mask : Str → Nat) : Fm → Nat
  | .leaf x => mask (low x)
  | .node l r => arrowW above (wl above mask l) (wl above mask r)
/-- a dict of numbers by names -/
noncomputable def MaskObj (w : World) (o : Obj) (mask : Str → Nat) : Prop :=
  o.ExactDict ∧ ∃ es ep, o.data = .dict es ep ∧ KeysOf (_root_.PySem.strKind PG w) es ∧ ∀ x ∈ lows, ∃ t, findBy (_root_.PySem.strKind PG w).is es x = some (.int (mask x : Nat) t)
inductive NamesOk : Fm → Prop
  | leaf {x} : x ∈ names6 → NamesOk (.leaf x)
  | node {l r} : NamesOk l → NamesOk r → NamesOk (.node l r)
noncomputable abbrev woEnv (w : World) (L : Addr) : Env := callEnvC (fdAt w.params 249) L 249
theorem band_nat (a b : Nat) : Builtin.bitAnd (a : Int) (b : Int) = ((a &&& b : Nat) : Int) := by
  rw [bitAnd_pp (by omega) (by omega)]; simp
theorem worlds_ok {w : World} {above : List Nat} {mask : Str → Nat} {Ab M : Addr} {avs : List Value} {an : Nat} {mo : Obj} (hal : above.length ≤ 100) :
    ∀ {t : Fm} {v : Value} {c : Ctx0} {G : Array GenState} {Z : Zone} {s : Shared} {A : Around} {E Q : Value → Shared → Prop}, Rm A (t.ht + 60) → Z0 w c G Z s → Z Ab = some (W.listOf avs.toArray an) → NatsV avs above → Z M = some mo → MaskObj w mo mask → TreeAt Z v t → NamesOk t →
      (∀ tk s' Z', Z0 w ⟨c.H, s, [], Z⟩ G Z' s' → Q (.int (wl above mask t : Nat) tk) s') → wpAny (model PG w) A (call (.ref 249) [v, .ref Ab, .ref M]) Q E s := by
  intro t
  induction t with
  | leaf x =>
    intro v c G Z s A E Q hr h hAb hav hM hmo ht hnm k
    have h1 : (KF w).lookup 249 = some (obAt w.params 249) := by kernel_rfl
    have h2 : (obAt w.params 249).data = .func (fdAt w.params 249) := by kernel_rfl
    have h3 : codeIn (KF w) (fdAt w.params 249).code (fdAt w.params 249).qualname = true := by kernel_rfl
    have h4 : (fdAt w.params 249).body = .stmts (bodyAt w.params 249) := by kernel_rfl
    have h5 : bindArgs (fdAt w.params 249) ⟨[v, .ref Ab, .ref M], []⟩ = pure [(Str.ofString "tree", v), (Str.ofString "above", .ref Ab), (Str.ofString "masks", .ref M)] := by kernel_rfl
    refine wpAny_call ?_
    with_reducible refine enterN (fun y => if y = Str.ofString "masks" then some (.ref M) else (fun y => if y = Str.ofString "tree" then some v else none) y) (fun L => [(L + 3, cellO none), (L + 2, cellO none), (L + 1, cellO (some (.ref Ab)))]) (n := 59) (hr.le (by omega)) h.kin h h1 h2 h3 h4 (bind_pure h5) (by kernel_rfl) (by kernel_rfl) ?_
    intro L s1 hS1 hr1
    cases ht with
    | leaf _ tx =>
      cases hnm with
      | leaf hx =>
        obtain ⟨f1, f2, f3, f4, f5⟩ := n6_at hx
        refine wpAny_execs_cons ?_
        with_reducible refine wpAny_If ?_
        with_reducible refine wpAny_isTrue_Not ?_
        with_reducible refine isTrue_plain ?_ (by kernel_rfl)
        with_reducible refine callB (id := "isinstance") ?_
        with_reducible refine is_ldb hS1.toZ0 (by kernel_rfl) (by kernel_rfl) ?_
        with_reducible refine args_cons ?_
        with_reducible refine ld hS1 (v := .str x tx) ?_ ?_
        · walk_at "lk"
        with_reducible refine args_one ?_
        with_reducible refine ldb (v := .type "list") hS1.toZ0 (by kernel_rfl) (by kernel_rfl) ?_
        with_reducible refine isin_tree hS1 (TreeAt.leaf x tx) fun s2 hS2 => ?_
        refine wpAny_truthy_bool ?_
        refine wpAny_execs_cons (wpAny_Return_some ?_)
        refine Subscript_ (ld hS2 (v := .ref M) (by walk_at "lk") ?_)
        with_reducible refine callS0 F.slot_str_lower F.type_str_lower ?_
        refine ld hS2 (v := .str x tx) (by walk_at "lk") ⟨x, tx, rfl, SC.lower f4 ?_⟩
        have hS3 := hS2.toks (s2.toks + 1)
        obtain ⟨hex, es, ep, hdat, hkeys, hmask⟩ := hmo
        obtain ⟨tv, hval⟩ := hmask _ (low_in hx)
        have hmap : Heap.MapOf (_root_.PySem.strKind PG w) s2.heap M (fun y => findBy (_root_.PySem.strKind PG w).is es y) := ⟨mo, es, ep, hS2.z _ _ hM, hex, hdat, hkeys, fun _ => rfl⟩
        refine tail_any (T := "dict") (ops := [.ref M, .str (Txt.lower x) s2.toks]) ⟨mo, hS3.z _ _ hM, hex.1⟩ slot_dict_getitem.lookup (wpAny_getItem_of (strKind_is PG w _ _) hmap hval ?_) (by kernel_rfl)
        exact k tv _ _ (hS3.toks _).toZ0
  | node lt rt ihl ihr =>
    intro v c G Z s A E Q hr h hAb hav hM hmo ht hnm k
    have h1 : (KF w).lookup 249 = some (obAt w.params 249) := by kernel_rfl
    have h2 : (obAt w.params 249).data = .func (fdAt w.params 249) := by kernel_rfl
    have h3 : codeIn (KF w) (fdAt w.params 249).code (fdAt w.params 249).qualname = true := by kernel_rfl
    have h4 : (fdAt w.params 249).body = .stmts (bodyAt w.params 249) := by kernel_rfl
    have h5 : bindArgs (fdAt w.params 249) ⟨[v, .ref Ab, .ref M], []⟩ = pure [(Str.ofString "tree", v), (Str.ofString "above", .ref Ab), (Str.ofString "masks", .ref M)] := by kernel_rfl
    have hht : (Fm.node lt rt).ht = lt.ht + rt.ht + 1 := rfl
    rw [hht] at hr
    refine wpAny_call ?_
    with_reducible refine enterN (fun y => if y = Str.ofString "masks" then some (.ref M) else (fun y => if y = Str.ofString "tree" then some v else none) y) (fun L => [(L + 3, cellO none), (L + 2, cellO none), (L + 1, cellO (some (.ref Ab)))]) (n := lt.ht + rt.ht + 60) (hr.le (by omega)) h.kin h h1 h2 h3 h4 (bind_pure h5) (by kernel_rfl) (by kernel_rfl) ?_
    intro L s1 hS1 hr1
    cases ht with
    | @node a v1 v2 tn _ _ ha ht1 ht2 =>
      cases hnm with
      | node hn1 hn2 =>
        refine wpAny_execs_cons ?_
        with_reducible refine wpAny_If ?_
        with_reducible refine wpAny_isTrue_Not ?_
        with_reducible refine isTrue_plain ?_ (by kernel_rfl)
        with_reducible refine callB (id := "isinstance") ?_
        with_reducible refine is_ldb hS1.toZ0 (by kernel_rfl) (by kernel_rfl) ?_
        with_reducible refine args_cons ?_
        with_reducible refine ld hS1 (v := .ref a) ?_ ?_
        · walk_at "lk"
        with_reducible refine args_one ?_
        with_reducible refine ldb (v := .type "list") hS1.toZ0 (by kernel_rfl) (by kernel_rfl) ?_
        with_reducible refine isin_tree hS1 (TreeAt.node ha ht1 ht2) fun s2 hS2 => ?_
        refine wpAny_truthy_bool ?_
        refine wpAny_execs_nil ?_
        refine wpAny_execs_cons ?_
        with_reducible refine Assign_Tuple ?_ (by kernel_rfl) (by kernel_rfl)
        refine mk_tuple (args_cons ?_)
        with_reducible refine callF (f := 249) (by kernel_rfl) ?_
        refine is_ldg hS2.toZ0 (by kernel_rfl) (args_cons (Subscript_ (ld hS2 (v := .ref a) (by walk_at "lk") (con_int hS2 fun t3 s3 hS3 => ?_))))
        refine item_at (v := v1) (hS3.z _ _ ha) (by decide) (by decide) rfl ?_
        refine args_cons (ldc hS3 (a := L + 1) (v := .ref Ab) (.tail _ (.tail _ (.head _))) (args_one (ld hS3 (v := .ref M) (by walk_at "lk") ⟨hS3.kin, ?_⟩)))
        with_reducible refine ihl (hr1.le (by omega)) hS3.toZ0 hAb hav hM hmo ht1 hn1 fun tk4 s4 Z4 hZ4 => ?_
        have hS4 := hS3.back hZ4 (fun _ q => nomatch q)
        have hle4 : Z.le Z4 := hZ4.zle
        refine args_one ?_
        with_reducible refine callF (f := 249) (by kernel_rfl) ?_
        refine is_ldg hS4.toZ0 (by kernel_rfl) (args_cons (Subscript_ (ld hS4 (v := .ref a) (by walk_at "lk") (con_int hS4 fun t5 s5 hS5 => ?_))))
        have hAb4 := hle4 _ _ hAb
        have hM4 := hle4 _ _ hM
        refine item_at (v := v2) (hS5.z _ _ (hle4 _ _ ha)) (by decide) (by decide) rfl ?_
        refine args_cons (ldc hS5 (a := L + 1) (v := .ref Ab) (.tail _ (.tail _ (.head _))) (args_one (ld hS5 (v := .ref M) (by walk_at "lk") ⟨hS5.kin, ?_⟩)))
        with_reducible refine ihr (hr1.le (by omega)) hS5.toZ0 hAb4 hav hM4 hmo (ht2.mono hle4) hn2 fun tk6 s6 Z6 hZ6 => ?_
        have hS6 := hS5.back hZ6 (fun _ q => nomatch q)
        have hle6 : Z.le Z6 := hle4.trans hZ6.zle
        refine ⟨_, _, _, _, _, hS6, (by show 2 ≤ sizeLine; decide), fun T s7 hTc hS7 => ?_⟩
        generalize hWl : wl above mask lt = WL at *
        generalize hWr : wl above mask rt = WR at *
        refine wpAny_assign_Tuple hr1.handled (items := #[.int (WL : Nat) tk4, .int (WR : Nat) tk6]) ⟨_, hS7.own' (.head _), rfl, _, rfl⟩ rfl rfl (fun h' he' => ?_)
        have hS8 : S w _ G Z6 _ _ { s7 with heap := h' } := hS7.heapK fun b o e => he' b o (Nat.ne_of_lt (Heap.lt_size e)) e
        show wpAny (model PG w) _ (do holding [.int (WR : Nat) tk6] (assign (.Name (Str.ofString "left") _) (woEnv w L) (.int (WL : Nat) tk4)); assignInOrder [assign (.Name (Str.ofString "right") _) (woEnv w L)] [.int (WR : Nat) tk6]) _ _ _
        refine wpAny_bind (wpAny_holding (wpAny_assign_Name ?_))
        refine stc hS8 (a := L + 2) (.tail (.tail .head)) fun s9 hS9 => ?_
        show wpAny (model PG w) _ (do assign (.Name (Str.ofString "right") _) (woEnv w L) (.int (WR : Nat) tk6); assignInOrder [] []) _ _ _
        refine wpAny_bind (wpAny_assign_Name (stc hS9 (a := L + 3) (.tail .head) fun s10 hS10 => wpAny_pure ?_))
        refine wpAny_execs_cons (wpAny_Return_some ?_)
        with_reducible refine callB (id := "sum") ?_
        refine is_ldb hS10.toZ0 (by kernel_rfl) (by kernel_rfl) (args_one ?_)
        refine comp (cl := [(Str.ofString "right", L + 3), (Str.ofString "left", L + 2), (Str.ofString "above", L + 1)]) ?_
        with_reducible refine callT (T := "range") ?_
        refine is_ldb hS10.toZ0 (by kernel_rfl) (by kernel_rfl) (args_one ?_)
        with_reducible refine callB (id := "len") ?_
        refine is_ldb hS10.toZ0 (by kernel_rfl) (by kernel_rfl) (args_one (ldc hS10 (a := L + 1) (v := .ref Ab) (.tail _ (.tail _ (.tail _ (.head _)))) ?_))
        have hAl : avs.length = above.length := hav.length
        have hsz10 : avs.toArray.size ≤ 1000 := by rw [List.size_toArray]; omega
        have hz10 := hS10.z _ _ (hle6 _ _ hAb)
        with_reducible refine len_ok hS10 hz10 hsz10 fun t11 s11 hS11 => ?_
        rw [show avs.toArray.size = above.length by simp [hAl]]
        with_reducible refine iter_range1 hS11 (by omega) fun r ro s12 hS12 hIt => ?_
        refine hIt _ _ _ _ _ _ _ hS12 (.head _) fun I io s13 hJ hIc hS13 => ?_
        refine ⟨_, G, Z6, _, _, _, I, io, kRange 0 above.length, fun i ys Z' => NatsV ys (((List.range i).filter fun k => ((above.getD k 0 &&& WL) &&& WR) == (above.getD k 0 &&& WL)).map fun k => 2 ^ k) ∧ Z' = Z6, rfl, itr_range hr1.handled I 0 _, hJ, by show above.length ≤ 10000; omega, hS13, (fun _ q => nomatch q), ⟨.nil, rfl⟩, fun _ _ _ _ _ _ _ => trivial, ?_, ?_⟩
        · intro C D i u ys Z' m' k' io' s14 E' hi hP hJ' hI hle hS14
          obtain ⟨hI, rfl⟩ := hI
          obtain ⟨ti, rfl⟩ := hP
          have hi : i < above.length := hi
          have hiv : (0 : Int) + (i : Int) * 1 = (i : Int) := by omega
          rw [hiv]
          obtain ⟨ta, hget⟩ := hav.get i hi
          have hstep : ((List.range (i + 1)).filter fun k => ((above.getD k 0 &&& WL) &&& WR) == (above.getD k 0 &&& WL)).map (fun k => 2 ^ k) = ((List.range i).filter fun k => ((above.getD k 0 &&& WL) &&& WR) == (above.getD k 0 &&& WL)).map (fun k => 2 ^ k) ++ (if (((above.getD i 0 &&& WL) &&& WR) == (above.getD i 0 &&& WL)) = true then [2 ^ i] else []) := by
            rw [List.range_succ, List.filter_append, List.map_append, List.filter_cons]
            by_cases q : (((above.getD i 0 &&& WL) &&& WR) == (above.getD i 0 &&& WL)) = true
            · rw [if_pos q, if_pos q]; rfl
            · rw [if_neg q, if_neg q]; rfl
          generalize above.getD i 0 = ab at *
          refine wpAny_pure ?_
          refine wpAny_assign_Name (st hS14 fun s15 hS15 => ?_)
          rw [List.forIn_cons]
          simp only [if_true]
          with_reducible refine wpAny_bind ?_
          with_reducible refine wpAny_bind ?_
          with_reducible refine wpAny_isTrue_Compare1 ?_
          refine wpAny_BinOp (wpAny_BinOp (Subscript_ (ldc hS15 (a := L + 1) (v := .ref Ab) (.tail _ (.tail _ (.tail _ (.tail _ (.tail _ (.tail _ (.head _))))))) (ld hS15 (v := .int (i : Nat) ti) (by walk_at "lk") ?_))))
          refine item_at (hS15.z _ _ (hle6 _ _ hAb)) (by omega) (by omega) (v := .int (ab : Nat) ta) (by simpa using hget) ?_
          refine ldc hS15 (a := L + 2) (v := .int (WL : Nat) tk4) (.tail _ (.tail _ (.tail _ (.tail _ (.tail _ (.head _)))))) (and_int ?_)
          rw [band_nat]
          have hS16 := hS15.toks (s15.toks + 1)
          refine ldc hS16 (a := L + 3) (v := .int (WR : Nat) tk6) (.tail _ (.tail _ (.tail _ (.tail _ (.head _))))) (and_int ?_)
          rw [band_nat]
          have hS17 := hS16.toks (s15.toks + 1 + 1)
          refine wpAny_BinOp (Subscript_ (ldc hS17 (a := L + 1) (v := .ref Ab) (.tail _ (.tail _ (.tail _ (.tail _ (.tail _ (.tail _ (.head _))))))) (ld hS17 (v := .int (i : Nat) ti) (by walk_at "lk") ?_)))
          refine item_at (hS17.z _ _ (hle6 _ _ hAb)) (by omega) (by omega) (v := .int (ab : Nat) ta) (by simpa using hget) ?_
          refine ldc hS17 (a := L + 2) (v := .int (WL : Nat) tk4) (.tail _ (.tail _ (.tail _ (.tail _ (.tail _ (.head _)))))) (and_int ?_)
          rw [band_nat]
          have hS18 := hS17.toks (s15.toks + 1 + 1 + 1)
          refine PyProof.Rows.eq_int (wpAny_truthy_bool (wpAny_pure ?_))
          refine wpAny_pure ?_
          rw [show ((((ab &&& WL) &&& WR : Nat) : Int) == ((ab &&& WL : Nat) : Int)) = (((ab &&& WL) &&& WR) == (ab &&& WL)) from by
            rw [Bool.eq_iff_iff, beq_iff_eq, beq_iff_eq]; omega]
          by_cases q : (((ab &&& WL) &&& WR) == (ab &&& WL)) = true
          · rw [if_pos q] at hstep ⊢
            refine wpAny_BinOp (con_int hS18 fun t19 s19 hS19 => ld hS19 (v := .int (i : Nat) ti) (by walk_at "lk") (pow_int_small (by omega) (by omega) (by decide) ?_))
            have e2 : ((2 : Int) ^ ((i : Nat) : Int).toNat) = ((2 ^ i : Nat) : Int) := by
              rw [Int.toNat_natCast]; simp
            rw [e2]
            refine ⟨Z', _, .refl _, hS19.toks _, ?_, rfl⟩
            rw [hstep]
            exact hI.snoc (2 ^ i) _
          · rw [if_neg q] at hstep ⊢
            refine ⟨Z', _, .refl _, hS18, ?_, rfl⟩
            rw [hstep, List.append_nil]
            exact hI
        · intro D ys Z' k' s14 hD hI hle hS14
          obtain ⟨hI, rfl⟩ := hI
          refine sum_nats hr1.handled hS14 (hS14.own' (.head _)) hI fun t15 s15 hS15 => ?_
          have := k t15 s15 Z' hS15.toZ0
          rw [wl, hWl, hWr] at this
          exact this
section
variable {w : World} {s : Shared} {A : Around} {E : Value → Shared → Prop} {env : Env} {R : Result → Shared → Prop}
noncomputable abbrev e3 (elt t0 i0 t1 i1 t2 i2 : PySem.Expr) (scope : Scope) (pos : Pos) : PySem.Expr := .ListComp elt [⟨t0, i0, [], 0⟩, ⟨t1, i1, [], 0⟩, ⟨t2, i2, [], 0⟩] scope pos
theorem ct0 (elt t0 i0 t1 i1 t2 i2 : PySem.Expr) (scope : Scope) (pos : Pos) (it acc : Value) (env : Env) : compTurn (e3 elt t0 i0 t1 i1 t2 i2 scope pos) 0 it acc env = (standAt i0.pos >>= fun _ => pyNext it >>= fun r => match r with
    | none => pure (.done .next)
    | some v => letOwnedTupleGo t0 it v >>= fun _ => assign t0 env v >>= fun _ => (eval i1 env >>= fun x => standAt i1.pos >>= fun _ => foldedSetIterable i1 env x >>= fun x => holding [x] (pyIter x) >>= fun it' => runOwn (.compStart (e3 elt t0 i0 t1 i1 t2 i2 scope pos) 1 it' acc env) env >>= fun _ =>
      again (.compLoop (e3 elt t0 i0 t1 i1 t2 i2 scope pos) 0 it acc env))) := by rfl
theorem ct1 (elt t0 i0 t1 i1 t2 i2 : PySem.Expr) (scope : Scope) (pos : Pos) (it acc : Value) (env : Env) : compTurn (e3 elt t0 i0 t1 i1 t2 i2 scope pos) 1 it acc env = (standAt i1.pos >>= fun _ => pyNext it >>= fun r => match r with
    | none => pure (.done .next)
    | some v => letOwnedTupleGo t1 it v >>= fun _ => assign t1 env v >>= fun _ => (eval i2 env >>= fun x => standAt i2.pos >>= fun _ => foldedSetIterable i2 env x >>= fun x => holding [x] (pyIter x) >>= fun it' => runOwn (.compStart (e3 elt t0 i0 t1 i1 t2 i2 scope pos) 2 it' acc env) env >>= fun _ =>
      again (.compLoop (e3 elt t0 i0 t1 i1 t2 i2 scope pos) 1 it acc env))) := by rfl
theorem ct2 (elt t0 i0 t1 i1 t2 i2 : PySem.Expr) (scope : Scope) (pos : Pos) (it acc : Value) (env : Env) : compTurn (e3 elt t0 i0 t1 i1 t2 i2 scope pos) 2 it acc env = (standAt i2.pos >>= fun _ => pyNext it >>= fun r => match r with
    | none => pure (.done .next)
    | some v => letOwnedTupleGo t2 it v >>= fun _ => assign t2 env v >>= fun _ => (eval elt env >>= fun x => call (.builtin "list.append") [acc, x] >>= fun _ => pure ()) >>= fun _ =>
      again (.compLoop (e3 elt t0 i0 t1 i1 t2 i2 scope pos) 2 it acc env)) := by rfl
theorem loop0 {elt t0 i0 t1 i1 t2 i2 : PySem.Expr} {scope : Scope} {pos : Pos} {it acc : Value} (I : Nat → Shared → Prop) (hs : (fun x => foldedSetIterable i1 env x) = fun x => pure x)
    (turn : ∀ n s (E : Value → Shared → Prop), I n s → wpAny (model PG w) A (pyNext it) (fun r s₁ => match r with
      | none => R (.ok .next) s₁
      | some v => wpAny (model PG w) A (letOwnedTupleGo t0 it v) (fun _ s₂ => wpAny (model PG w) A (assign t0 env v) (fun _ s₃ => wpAny (model PG w) A (eval i1 env) (fun x s₄ => wpAny (model PG w) A (pyIter x) (fun it' s₅ =>
          codeAny (model PG w) A (.compStart (e3 elt t0 i0 t1 i1 t2 i2 scope pos) 1 it' acc env) (fun r s₆ => match r with | .ok _ => ∃ m, m < n ∧ I m s₆ | .error x => cameBackBy (model PG w) A env E x s₆) s₅) E s₄) E s₃) E s₂) E s₁) E s)
    (n : Nat) (h : I n s) : codeAny (model PG w) A (.compLoop (e3 elt t0 i0 t1 i1 t2 i2 scope pos) 0 it acc env) R s := by
  refine codeAny_loop rfl I (fun n s hI => ?_) n h
  show wpAny _ A ((compTurn (e3 elt t0 i0 t1 i1 t2 i2 scope pos) 0 it acc env).onRaise (fun x => do noteFrame x env; theTreesLotGoes x)) _ _ s
  refine wpAny_noted ?_
  rw [ct0]
  refine wpAny_bind (wpAny_standAt (wpAny_bind (wpAny_mono (turn n s _ hI) (fun r s₁ h₁ => ?_) fun _ _ h' => h')))
  cases r with
  | none => exact wpAny_pure h₁
  | some v =>
    refine wpAny_bind (wpAny_mono h₁ (fun _ s₂ h₂ => ?_) fun _ _ h' => h')
    refine wpAny_bind (wpAny_mono h₂ (fun _ s₃ h₃ => ?_) fun _ _ h' => h')
    refine wpAny_bind (wpAny_mono h₃ (fun x s₄ h₄ => ?_) fun _ _ h' => h')
    refine wpAny_bind (wpAny_standAt (wpAny_bind ?_))
    refine wpAny_of_eq (congrFun hs x) ?_
    refine wpAny_bind (wpAny_holding (wpAny_mono h₄ (fun it' s₅ h₅ => ?_) fun _ _ h' => h'))
    refine wpAny_bind (wpAny_runOwn (h := none) ?_)
    rw [show A.mark none = A from by cases A; rfl]
    refine codeAny_mono h₅ fun r s₆ h₆ => ?_
    cases r with
    | error x => exact h₆
    | ok f => exact wpAny_pure ⟨rfl, h₆⟩
theorem loop1 {elt t0 i0 t1 i1 t2 i2 : PySem.Expr} {scope : Scope} {pos : Pos} {it acc : Value} (I : Nat → Shared → Prop) (hs : (fun x => foldedSetIterable i2 env x) = fun x => pure x)
    (turn : ∀ n s (E : Value → Shared → Prop), I n s → wpAny (model PG w) A (pyNext it) (fun r s₁ => match r with
      | none => R (.ok .next) s₁
      | some v => wpAny (model PG w) A (letOwnedTupleGo t1 it v) (fun _ s₂ => wpAny (model PG w) A (assign t1 env v) (fun _ s₃ => wpAny (model PG w) A (eval i2 env) (fun x s₄ => wpAny (model PG w) A (pyIter x) (fun it' s₅ =>
          codeAny (model PG w) A (.compStart (e3 elt t0 i0 t1 i1 t2 i2 scope pos) 2 it' acc env) (fun r s₆ => match r with | .ok _ => ∃ m, m < n ∧ I m s₆ | .error x => cameBackBy (model PG w) A env E x s₆) s₅) E s₄) E s₃) E s₂) E s₁) E s)
    (n : Nat) (h : I n s) : codeAny (model PG w) A (.compLoop (e3 elt t0 i0 t1 i1 t2 i2 scope pos) 1 it acc env) R s := by
  refine codeAny_loop rfl I (fun n s hI => ?_) n h
  show wpAny _ A ((compTurn (e3 elt t0 i0 t1 i1 t2 i2 scope pos) 1 it acc env).onRaise (fun x => do noteFrame x env; theTreesLotGoes x)) _ _ s
  refine wpAny_noted ?_
  rw [ct1]
  refine wpAny_bind (wpAny_standAt (wpAny_bind (wpAny_mono (turn n s _ hI) (fun r s₁ h₁ => ?_) fun _ _ h' => h')))
  cases r with
  | none => exact wpAny_pure h₁
  | some v =>
    refine wpAny_bind (wpAny_mono h₁ (fun _ s₂ h₂ => ?_) fun _ _ h' => h')
    refine wpAny_bind (wpAny_mono h₂ (fun _ s₃ h₃ => ?_) fun _ _ h' => h')
    refine wpAny_bind (wpAny_mono h₃ (fun x s₄ h₄ => ?_) fun _ _ h' => h')
    refine wpAny_bind (wpAny_standAt (wpAny_bind ?_))
    refine wpAny_of_eq (congrFun hs x) ?_
    refine wpAny_bind (wpAny_holding (wpAny_mono h₄ (fun it' s₅ h₅ => ?_) fun _ _ h' => h'))
    refine wpAny_bind (wpAny_runOwn (h := none) ?_)
    rw [show A.mark none = A from by cases A; rfl]
    refine codeAny_mono h₅ fun r s₆ h₆ => ?_
    cases r with
    | error x => exact h₆
    | ok f => exact wpAny_pure ⟨rfl, h₆⟩
theorem loop2 {elt t0 i0 t1 i1 t2 i2 : PySem.Expr} {scope : Scope} {pos : Pos} {it acc : Value} (I : Nat → Shared → Prop)
    (turn : ∀ n s (E : Value → Shared → Prop), I n s → wpAny (model PG w) A (pyNext it) (fun r s₁ => match r with
      | none => R (.ok .next) s₁
      | some v => wpAny (model PG w) A (letOwnedTupleGo t2 it v) (fun _ s₂ => wpAny (model PG w) A (assign t2 env v) (fun _ s₃ => wpAny (model PG w) A (eval elt env) (fun x s₄ => wpAny (model PG w) A (call (.builtin "list.append") [acc, x]) (fun _ s₅ => ∃ m, m < n ∧ I m s₅) E s₄) E s₃) E s₂) E s₁) E s)
    (n : Nat) (h : I n s) : codeAny (model PG w) A (.compLoop (e3 elt t0 i0 t1 i1 t2 i2 scope pos) 2 it acc env) R s := by
  refine codeAny_loop rfl I (fun n s hI => ?_) n h
  show wpAny _ A ((compTurn (e3 elt t0 i0 t1 i1 t2 i2 scope pos) 2 it acc env).onRaise (fun x => do noteFrame x env; theTreesLotGoes x)) _ _ s
  refine wpAny_noted ?_
  rw [ct2]
  refine wpAny_bind (wpAny_standAt (wpAny_bind (wpAny_mono (turn n s _ hI) (fun r s₁ h₁ => ?_) fun _ _ h' => h')))
  cases r with
  | none => exact wpAny_pure h₁
  | some v =>
    refine wpAny_bind (wpAny_mono h₁ (fun _ s₂ h₂ => ?_) fun _ _ h' => h')
    refine wpAny_bind (wpAny_mono h₂ (fun _ s₃ h₃ => ?_) fun _ _ h' => h')
    exact wpAny_bind (wpAny_bind (wpAny_mono h₃ (fun x s₄ h₄ => wpAny_bind (wpAny_mono h₄ (fun _ s₅ h₅ => wpAny_pure (wpAny_pure ⟨rfl, h₅⟩)) fun _ _ h' => h')) fun _ _ h' => h'))
theorem start1 {elt t0 i0 t1 i1 t2 i2 : PySem.Expr} {scope : Scope} {pos : Pos} {it acc : Value}
    (h0 : codeAny (model PG w) A (.compLoop (e3 elt t0 i0 t1 i1 t2 i2 scope pos) 1 it acc env) R s)
    (h : ∀ E : Value → Shared → Prop, wpAny (model PG w) A (pyIter it) (fun it' s' => codeAny (model PG w) A (.compLoop (e3 elt t0 i0 t1 i1 t2 i2 scope pos) 1 it' acc env) R s') E s) :
    codeAny (model PG w) A (.compStart (e3 elt t0 i0 t1 i1 t2 i2 scope pos) 1 it acc env) R s := by
  refine codeAny_of_tree ?_
  show wpAny _ _ ((compStart (e3 elt t0 i0 t1 i1 t2 i2 scope pos) 1 it acc env).onRaise (fun x => do noteFrame x env; standAt theWindowsPlace)) _ _ s
  refine wpAny_notedAt ?_
  unfold compStart
  show wpAny _ _ (ask >>= _) _ _ s
  refine wpAny_bind (wpAny_askSetting (wpAny_ite ?_))
  split
  · first
      | exact wpAny_bind (wpAny_pure (wpAny_pure (And.intro rfl h0)))
      | exact wpAny_pure (And.intro rfl h0)
  · first
      | exact wpAny_bind (wpAny_rule (wpAny_bind (wpAny_standAt (wpAny_bind (wpAny_mono (h _) (fun it' s' h' => wpAny_pure (And.intro rfl h')) fun _ _ x => x)))))
      | (refine wpAny_bind (wpAny_rule ?_); show wpAny _ _ (standAt _ >>= _) _ _ s; exact wpAny_bind (wpAny_standAt (wpAny_bind (wpAny_mono (h _) (fun it' s' h' => wpAny_pure (And.intro rfl h')) fun _ _ x => x))))
theorem start2 {elt t0 i0 t1 i1 t2 i2 : PySem.Expr} {scope : Scope} {pos : Pos} {it acc : Value}
    (h0 : codeAny (model PG w) A (.compLoop (e3 elt t0 i0 t1 i1 t2 i2 scope pos) 2 it acc env) R s)
    (h : ∀ E : Value → Shared → Prop, wpAny (model PG w) A (pyIter it) (fun it' s' => codeAny (model PG w) A (.compLoop (e3 elt t0 i0 t1 i1 t2 i2 scope pos) 2 it' acc env) R s') E s) :
    codeAny (model PG w) A (.compStart (e3 elt t0 i0 t1 i1 t2 i2 scope pos) 2 it acc env) R s := by
  refine codeAny_of_tree ?_
  show wpAny _ _ ((compStart (e3 elt t0 i0 t1 i1 t2 i2 scope pos) 2 it acc env).onRaise (fun x => do noteFrame x env; standAt theWindowsPlace)) _ _ s
  refine wpAny_notedAt ?_
  unfold compStart
  show wpAny _ _ (ask >>= _) _ _ s
  refine wpAny_bind (wpAny_askSetting (wpAny_ite ?_))
  split
  · first
      | exact wpAny_bind (wpAny_pure (wpAny_pure (And.intro rfl h0)))
      | exact wpAny_pure (And.intro rfl h0)
  · first
      | exact wpAny_bind (wpAny_rule (wpAny_bind (wpAny_standAt (wpAny_bind (wpAny_mono (h _) (fun it' s' h' => wpAny_pure (And.intro rfl h')) fun _ _ x => x)))))
      | (refine wpAny_bind (wpAny_rule ?_); show wpAny _ _ (standAt _ >>= _) _ _ s; exact wpAny_bind (wpAny_standAt (wpAny_bind (wpAny_mono (h _) (fun it' s' h' => wpAny_pure (And.intro rfl h')) fun _ _ x => x))))
end
/-- a dict object that gives numbers to some names -/
noncomputable def DictNums (w : World) (o : Obj) (xs : List Str) (f : Str → Nat) : Prop := ∃ kvs, o.IsDictOf (_root_.PySem.strKind PG w) kvs ∧ kvs.length ≤ 10 ∧ (∀ x ∈ xs, ∃ t, valueAt kvs x = some (.int (f x : Nat) t)) ∧ ∀ p ∈ kvs, p.1 ∈ xs
theorem DictNums.mask {w : World} {o : Obj} {xs : List Str} {f : Str → Nat} (h : DictNums w o xs f) (hx : ∀ x ∈ lows, x ∈ xs) : MaskObj w o f := by
  obtain ⟨kvs, ⟨es, ep, hex, hd, hk, hp, hn⟩, _, hv, _⟩ := h
  refine ⟨hex, es, ep, hd, hk, fun x hxl => ?_⟩
  have hf : o.isFreed = false := by
    obtain ⟨c, d, dt, sl⟩ := o
    have hd : dt = .dict es ep := hd
    subst hd; rfl
  obtain ⟨t, ht⟩ := hv x (hx x hxl)
  have hm : Heap.DictOf (_root_.PySem.strKind PG w) ((({} : Heap).push o)) (({} : Heap).objs.size) kvs := ⟨o, es, ep, Heap.get?_push_size _ hf, hex, hd, hk, hp, hn⟩
  obtain ⟨o', es', ep', h1, h2, h3, h4, h5⟩ := hm.mapOf
  have e1 : o' = o := by
    have := Heap.get?_push_size (({} : Heap)) (o := o) hf
    rw [this] at h1; injection h1 with h1; exact h1.symm
  subst e1
  rw [hd] at h3
  injection h3 with e2 e3
  subst e2
  exact ⟨t, by rw [h5 x]; exact ht⟩
theorem valueAt_stored_self {kvs : List (Str × Value)} {k : Str} {v : Value} : valueAt (stored kvs k v) k = some v := by
  unfold stored valueAt
  by_cases h : (kvs.any fun kv => decide (kv.1 = k)) = true
  · rw [if_pos h]
    induction kvs with
    | nil => simp at h
    | cons p kvs ih =>
      by_cases q : p.1 = k
      · simp [q]
      · simp only [List.map_cons, if_neg q, List.find?_cons, decide_eq_false q]
        refine ih ?_
        rw [List.any_cons, decide_eq_false q, Bool.false_or] at h
        exact h
  · rw [if_neg h, List.find?_append]
    have : kvs.find? (fun kv => decide (kv.1 = k)) = none := by
      rw [List.find?_eq_none]; intro x hx hq
      exact h (List.any_eq_true.mpr ⟨x, hx, hq⟩)
    rw [this]; simp
theorem valueAt_stored_ne {kvs : List (Str × Value)} {k x : Str} {v : Value} (hx : x ≠ k) : valueAt (stored kvs k v) x = valueAt kvs x := by
  unfold stored valueAt
  by_cases h : (kvs.any fun kv => decide (kv.1 = k)) = true
  · rw [if_pos h]
    clear h
    induction kvs with
    | nil => rfl
    | cons p kvs ih =>
      by_cases q : p.1 = k
      · have q2 : p.1 ≠ x := fun e => hx (e ▸ q)
        simp only [List.map_cons, if_pos q, List.find?_cons, decide_eq_false q2]
        exact ih
      · simp only [List.map_cons, if_neg q, List.find?_cons]
        by_cases q2 : p.1 = x
        · simp [q2]
        · simp only [decide_eq_false q2]; exact ih
  · rw [if_neg h, List.find?_append]
    have : ([(k, v)] : List (Str × Value)).find? (fun kv => decide (kv.1 = x)) = none := by simp [Ne.symm hx]
    rw [this, Option.or_none]
section
variable {w : World} {c : Ctx0} {G : Array GenState} {Z : Zone} {ns : List (Addr × (Str → Option Value))} {l : List (Addr × Obj)} {s : Shared} {A : Around} {E : Value → Shared → Prop} {env : Env}
theorem stored_in {kvs : List (Str × Value)} {k : Str} {v : Value} {xs : List Str} (hk : k ∈ xs) (h : ∀ p ∈ kvs, p.1 ∈ xs) : ∀ p ∈ stored kvs k v, p.1 ∈ xs := by
  intro p hp
  unfold stored at hp
  split at hp
  · obtain ⟨q, hq, rfl⟩ := List.mem_map.mp hp
    by_cases e : q.1 = k
    · rw [if_pos e]; exact h q hq
    · rw [if_neg e]; exact h q hq
  · rcases List.mem_append.mp hp with q | q
    · exact h p q
    · rw [List.mem_singleton.mp q]; exact hk
theorem DictNums.store {o : Obj} {xs : List Str} {f : Str → Nat} {kvs : List (Str × Value)} {k : Str} {n : Nat} {t : Tok} (hv : ∀ x ∈ xs, ∃ t, valueAt kvs x = some (.int (f x : Nat) t)) (hin : ∀ p ∈ kvs, p.1 ∈ xs) (hk : k ∈ xs) (h : o.IsDictOf (_root_.PySem.strKind PG w) (stored kvs k (.int (n : Nat) t))) (hxs : xs.length ≤ 5) :
    DictNums w o xs (fun x => if x = k then n else f x) := by
  have hin' := stored_in (v := .int (n : Nat) t) hk hin
  refine ⟨_, h, ?_, fun x hx => ?_, hin'⟩
  · obtain ⟨es, ep, _, _, _, _, hn⟩ := h
    have := nodup_len hn (U := xs) fun y hy => by
      obtain ⟨p, hp, rfl⟩ := List.mem_map.mp hy; exact hin' p hp
    rw [List.length_map] at this; omega
  · by_cases e : x = k
    · subst e; dsimp only; rw [if_pos rfl]; exact ⟨t, valueAt_stored_self⟩
    · dsimp only; rw [if_neg e, valueAt_stored_ne e]; exact hv x hx
/-- masks[k] -/
theorem item_nums {value slice : PySem.Expr} {M : Addr} {mo : Obj} {xs : List Str} {f : Str → Nat} {k : Str} {tk : Tok} {Q : Value → Shared → Prop} (h : S w c G Z ns l s) (hM : (M, mo) ∈ l) (hd : DictNums w mo xs f) (hk : k ∈ xs)
    (hq : ∀ t s', S w c G Z ns l s' → Q (.int (f k : Nat) t) s') (hs : subscripted slice false (.ref M) (.str k tk) = operate [.ref M, .str k tk] (getItem (.ref M) (.str k tk)) := by kernel_rfl) : wpAny (model PG w) A (subscriptTail value slice (.ref M) (.str k tk)) Q E s := by
  obtain ⟨kvs, hdo, _, hv, _⟩ := hd
  obtain ⟨t, ht⟩ := hv k hk
  have hda : s.heap.DictOf (_root_.PySem.strKind PG w) M kvs := Heap.dictOf_iff.mpr ⟨mo, h.own' hM, hdo⟩
  exact tail_any (T := "dict") (ops := [.ref M, .str k tk]) hda.typeIs slot_dict_getitem.lookup (wpAny_getItem_of (strKind_is PG w _ _) hda.mapOf ht (hq t _ (h.toks _))) hs
/-- masks[k] = n -/
theorem set_nums {M : Addr} {mo : Obj} {l' : Obj → List (Addr × Obj)} {xs : List Str} {f : Str → Nat} {k : Str} {tk tn : Tok} {n : Nat} {Q : Unit → Shared → Prop} (h : S w c G Z ns l s) (u : ∀ mo', Upd M mo mo' l (l' mo')) (hd : DictNums w mo xs f) (hk : k ∈ xs) (hxs : xs.length ≤ 5)
    (hq : ∀ mo' s', DictNums w mo' xs (fun x => if x = k then n else f x) → S w c G Z ns (l' mo') s' → Q () s') : wpAny (model PG w) A (setItem (.ref M) (.str k tk) (.int (n : Nat) tn)) Q E s := by
  obtain ⟨kvs, hdo, hl, hv, hin⟩ := hd
  have hda : s.heap.DictOf (_root_.PySem.strKind PG w) M kvs := Heap.dictOf_iff.mpr ⟨mo, h.own' (u mo).mem, hdo⟩
  refine wpAny_setItem_pairs (strKind_is PG w _ _) hda (fun h' hd' hsb => ?_) (by rw [sizeLine_eq]; omega)
  obtain ⟨mo', hg, hm'⟩ := Heap.dictOf_iff.mp hd'
  exact hq mo' _ (.store hv hin hk hm' hxs) ((h.sameBut (u mo') hsb hg).toks _)
/-- {a: i, b: j, c: k} -/
theorem mk_dict3 {ka kb kc va vb vc : PySem.Expr} {pos : Pos} {a b x : Str} {i j n : Nat} {Q : Value → Shared → Prop} (hS : S w c G Z ns l s) (hab : a ≠ b) (hax : a ≠ x) (hbx : b ≠ x)
    (ev : ∀ {s' : Shared} {l' : List (Addr × Obj)} {Q' : List (Value × Value) → Shared → Prop}, S w c G Z ns l' s' → (∀ t1 t2 t3 t4 t5 t6 s'', S w c G Z ns l' s'' → Q' [(.str a t1, .int (i : Nat) t2), (.str b t3, .int (j : Nat) t4), (.str x t5, .int (n : Nat) t6)] s'') →
      wpAny (model PG w) A (evalPairs [(eval ka env, do let x ← eval va env; standAt pos; pure x), (eval kb env, do let x ← eval vb env; standAt pos; pure x), (eval kc env, do let x ← eval vc env; standAt pos; pure x)]) Q' E s')
    (k : ∀ M mo s', c.sc.heap.get? M = none → DictNums w mo [a, b, x] (fun y => if y = x then n else if y = b then j else i) → S w c G Z ns ((M, mo) :: l) s' → Q (.ref M) s')
    (hshape : (evalEachOpt [some ka, some kb, some kc] env).zip ((evalEach [va, vb, vc] env).map fun v => do let x ← v; standAt pos; pure x) = [(eval ka env, do let x ← eval va env; standAt pos; pure x), (eval kb env, do let x ← eval vb env; standAt pos; pure x), (eval kc env, do let x ← eval vc env; standAt pos; pure x)].map fun p => (some p.1, p.2) := by kernel_rfl) :
    wpAny (model PG w) A (eval (.Dict [some ka, some kb, some kc] [va, vb, vc] pos) env) Q E s := by
  refine wpAny_Dict_pairs (knd := _root_.PySem.strKind PG w) hshape (by simp) (by simp) ?_
  have hS1 := hS.push W.emptyDict rfl
  refine ev hS1 fun t1 t2 t3 t4 t5 t6 s2 hS2 => ?_
  refine ⟨[(a, .int (i : Nat) t2), (b, .int (j : Nat) t4), (x, .int (n : Nat) t6)], ⟨strKind_is PG w _ _, rfl, strKind_is PG w _ _, rfl, strKind_is PG w _ _, rfl, trivial⟩, (empty_at (w := w) (hS2.own' (.head _))).dictOf, fun h' hd' hsb => ?_⟩
  rw [merged_nil_of_nodup _ (by simp [hab, hax, hbx])] at hd'
  obtain ⟨mo, hg, hm⟩ := Heap.dictOf_iff.mp hd'
  refine k _ mo _ hS.new ⟨_, hm, by simp, fun y hy => ?_, fun p hp => ?_⟩ ((hS2.sameBut .head hsb hg).toks _)
  · simp only [List.mem_cons, List.not_mem_nil, or_false] at hy
    rcases hy with rfl | rfl | rfl
    · exact ⟨t2, by dsimp only; rw [if_neg hax, if_neg hab]; simp [valueAt]⟩
    · exact ⟨t4, by dsimp only; rw [if_neg hbx, if_pos rfl]; simp [valueAt, hab]⟩
    · exact ⟨t6, by dsimp only; rw [if_pos rfl]; simp [valueAt, hax, hbx]⟩
  · simp only [List.mem_cons, List.not_mem_nil, or_false] at hp
    rcases hp with rfl | rfl | rfl <;> simp
end
section
variable {w : World} {s : Shared} {A : Around} {E : Value → Shared → Prop} {env : Env}
/-- x = [.. for .. for .. for ..], x a plain name -/
theorem comp3_asg {elt t0 i0 t1 i1 t2 i2 : PySem.Expr} {scope : Scope} {cl : List (Str × Addr)} {pos spos px : Pos} {x : Str} {Q : Flow → Shared → Prop}
    (h : wpAny (model PG w) A (eval i0 env) (fun xv s₁ => wpAny (model PG w) A (pyIter xv) (fun it s₂ => ∃ c G Z me r l I io K, ∃ Done : List Value → Zone → Prop, it = .ref I ∧ Itr w A I K ∧ K.J 0 io ∧ S w c G Z ((env.locals, me) :: r) ((I, io) :: l) s₂ ∧ c.T = [] ∧
      (∀ ns' a b s, S w c G Z (ns' :: (env.locals, me) :: r) (a :: b :: l) s → K.side s.heap) ∧
      (∀ C D m s' (R : Result → Shared → Prop), S w c G Z ((C, m) :: (env.locals, me) :: r) ((I, io) :: (D, W.listOf ([] : List Value).toArray 0) :: l) s' →
        (∀ ys Z' m k s'', Done ys Z' → Z.le Z' → S w c G Z' ((C, m) :: (env.locals, me) :: r) ((D, W.listOf ys.toArray k) :: l) s'' → R (.ok .next) s'') → codeAny (model PG w) A (.compLoop (e3 elt t0 i0 t1 i1 t2 i2 scope pos) 0 (.ref I) (.ref D) (compEnvC scope cl C env)) R s') ∧
      (∀ D ys Z' k s', c.sc.heap.get? D = none → Done ys Z' → Z.le Z' → S w c G Z' ((env.locals, fun y => if y = x then some (.ref D) else me y) :: r) ((D, W.listOf ys.toArray k) :: l) s' → Q .next s')) E s₁) E s)
    (hsw : swapsWith (e3 elt t0 i0 t1 i1 t2 i2 scope pos) (some (.Name x px)) spos.line env = pure true := by kernel_rfl)
    (hclos : closureFor scope env = pure cl := by kernel_rfl)
    (hcell : (scope.names.all fun x => !(x.2 == .cell)) = true := by kernel_rfl) (hkind : scope.kind = .function := by kernel_rfl)
    (hnames : (scope.names.all fun x => !(x.2 == .local) || scope.names.lookup x.1 == some .local) = true := by kernel_rfl)
    (hs : (fun x => foldedSetIterable i0 env x) = fun x => pure x := by kernel_rfl)
    (hy : env.kindOf x = some .local := by kernel_rfl) (hp : (env.scope.kind == .class || (env.scope.kind == .module && env.locals != env.globals)) = false := by kernel_rfl) :
    wpAny (model PG w) A (exec (.Assign [.Name x px] (e3 elt t0 i0 t1 i1 t2 i2 scope pos) spos) env) Q E s := by
  rw [exec_Assign_Name_used _ _ _ _ hsw]
  refine wpAny_bind (wpAny_standAt (wpAny_bind ?_))
  show wpAny _ A (do let _ ← comprehension (e3 elt t0 i0 t1 i1 t2 i2 scope pos) scope env _ (newList []) false (eval i0 env) (some (assign (.Name x px) env))) _ _ s
  refine wpAny_bind (wpAny_mono (wpAny_comprehension_free (use := some (assign (.Name x px) env)) (Q := fun _ s' => Q .next s') rfl (fun x => congrFun hs x) hclos hkind (fun x hx hl => by have := List.all_eq_true.mp hnames x hx; rw [hl] at this; simpa using this)
    (wpAny_mono h (fun xv s₁ h₁ => wpAny_mono h₁ (fun it s₂ h₂ => ?_) fun _ _ e => e) fun _ _ e => e)) (fun _ s' hq => wpAny_pure (wpAny_pure hq)) fun _ _ e => e)
  obtain ⟨c, G, Z, me, r, l, I, io, K, Done, rfl, WI, hJ, hS, hT, hside, hloop, hQ⟩ := h₂
  refine wpAny_newObj_type (wpAny_newFunctionEnv (fun x hx q => by have := List.all_eq_true.mp hcell x hx; rw [q] at this; exact absurd this (by decide)) (by intro y hy; simp at hy) (fun h₁ hns₁ hsb₁ => ?_) hkind)
  have hS1 := hS.push (W.listOf ([] : List Value).toArray 0) rfl
  have hD := hS.new
  have hS2 := hS1.newNs (h' := h₁) hns₁ (fun b o e => hsb₁.extBut b o (Nat.ne_of_lt (Heap.lt_size e)) (Heap.get?_push_of_some _ e)) (s₂.toks + ([] : List (Str × Value)).length)
  have hS3 := (hS2.swap).perm (l' := (I, io) :: (s₂.heap.objs.size, W.listOf ([] : List Value).toArray 0) :: l) (List.Perm.swap _ _ _)
  have loop := hloop _ _ _ _ (fun r s' => compPost (model PG w) A E (some (assign (.Name x px) env)) (fun _ s' => Q .next s') (.ref s₂.heap.objs.size) (s₂.heap.push (W.listOf ([] : List Value).toArray 0)).objs.size r s') hS3 (fun ys Z' m k s' hI hle hS' => by
    show wpAny _ A (assign (.Name x px) env (.ref s₂.heap.objs.size)) _ _ _
    refine wpAny_assign_Name (st hS'.swap (fun s'' hS'' => ?_) hy hp)
    refine ⟨m, hS''.nss _ (.tail _ (.head _)), fun h' hs' => ?_⟩
    exact hQ _ ys Z' k _ hD hI hle (hS''.swap.dropNs hs'.extBut (fun a ha => by rw [hT] at ha; cases ha)))
  exact codeAny_compStart_list loop (WI.self 0 _ _ _ io (hS3.own' (.head _)) hJ (hside _ _ _ _ hS3) loop)
end
theorem NatsV.at {vs : List Value} {xs : List Nat} (h : NatsV vs xs) : ∀ {i : Nat} {v : Value}, vs[i]? = some v → ∃ x t, v = .int ((x : Nat) : Int) t ∧ xs[i]? = some x := by
  induction h with
  | nil => intro i v h; simp at h
  | cons x t _ ih =>
    intro i v h
    cases i with
    | zero => simp at h; subst h; exact ⟨x, t, rfl, rfl⟩
    | succ i => simp at h; exact ih h
/-- worlds laid: names that hold newly, what comes later -/
inductive OvAt (Z : Zone) : List Value → List (List Str × Nat) → Prop
  | nil : OvAt Z [] []
  | cons {T H : Addr} {o n : Nat} {t : Tok} {hs : List Value} {xs : List Str} {vs os} : Z T = some (tupObj [.ref H, .int (o : Nat) t]) → Z H = some (W.listOf hs.toArray n) → StrsV hs xs → OvAt Z vs os → OvAt Z (.ref T :: vs) ((xs, o) :: os)
theorem OvAt.mono {Z Z' : Zone} (h : Z.le Z') {vs os} (x : OvAt Z vs os) : OvAt Z' vs os := by
  induction x with
  | nil => exact .nil
  | cons a b c _ ih => exact .cons (h _ _ a) (h _ _ b) c ih
theorem OvAt.append {Z : Zone} {vs os ws ps} (x : OvAt Z vs os) (y : OvAt Z ws ps) : OvAt Z (vs ++ ws) (os ++ ps) := by
  induction x with
  | nil => exact y
  | cons a b c _ ih => exact .cons a b c ih
theorem OvAt.length {Z : Zone} {vs os} (x : OvAt Z vs os) : vs.length = os.length := by
  induction x with
  | nil => rfl
  | cons _ _ _ _ ih => simp [ih]
theorem OvAt.at {Z : Zone} {vs os} (x : OvAt Z vs os) : ∀ {i : Nat} {v : Value}, vs[i]? = some v → ∃ T H o n t hs xs, v = .ref T ∧ os[i]? = some (xs, o) ∧ Z T = some (tupObj [.ref H, .int ((o : Nat) : Int) t]) ∧ Z H = some (W.listOf hs.toArray n) ∧ StrsV hs xs := by
  induction x with
  | nil => intro i v h; simp at h
  | cons a b c _ ih =>
    intro i v h
    cases i with
    | zero => simp at h; subst h; exact ⟨_, _, _, _, _, _, _, rfl, rfl, a, b, c⟩
    | succ i => simp at h; exact ih h
noncomputable abbrev mdEnv (w : World) (L : Addr) : Env := callEnvC (fdAt w.params 244) L 244
noncomputable def mdRoots (P : Params) : Stmt := match bodyAt P 244 with
  | _ :: a :: _ => a
  | _ => .Pass ⟨0, 0, 0, 0⟩
noncomputable def mdComp (P : Params) : PySem.Expr := match mdRoots P with
  | .Assign _ v _ => v
  | _ => .Constant .none 0 ⟨0, 0, 0, 0⟩
noncomputable def mdScope (P : Params) : Scope := match mdComp P with
  | .ListComp _ _ s _ => s
  | _ => default
noncomputable abbrev mcEnv (w : World) (L C : Addr) : Env := compEnvC (mdScope w.params) [] C (mdEnv w L)
theorem take_map {α β : Type} {f : α → β} {es : List α} {i : Nat} {e : α} (h : es[i]? = some e) : (es.take (i + 1)).map f = (es.take i).map f ++ [f e] := by
  have e1 : es.take (i + 1) = es.take i ++ [e] := by rw [List.take_add_one, h]; rfl
  rw [e1, List.map_append]; rfl
theorem take_fm {α β : Type} {f : α → List β} {es : List α} {i : Nat} {e : α} (h : es[i]? = some e) : (es.take (i + 1)).flatMap f = (es.take i).flatMap f ++ f e := by
  have e1 : es.take (i + 1) = es.take i ++ [e] := by rw [List.take_add_one, h]; rfl
  rw [e1, List.flatMap_append]; simp
section
variable {w : World} {c : Ctx0} {G : Array GenState} {Z : Zone} {ns : List (Addr × (Str → Option Value))} {l : List (Addr × Obj)} {s : Shared} {A : Around} {E : Value → Shared → Prop} {R : Result → Shared → Prop}
theorem md_loop2 {L C D I2 T2 : Addr} {io2 : Obj} {m : Str → Option Value} {lD : List Value → Nat → List (Addr × Obj)} {ws : List Value} {xs : List Nat} {u v : Nat} {tu tv : Tok} {ys : List Value} {kk : Nat} {pre : List (List Str × Nat)} {e : PySem.Expr} (he : e = mdComp w.params) (hr : Rm A 20) (hT : c.T = [])
    (uD : ∀ ys k y, Upd D (W.listOf ys.toArray k) (W.listOf (ys ++ [y]).toArray (k + 1)) (lD ys k) (lD (ys ++ [y]) (k + 1))) (hne : T2 ≠ I2) (hJ : (kTuple T2 ws).J 0 io2) (hx : NatsV ws xs) (hpl : pre.length + xs.length ≤ 1000)
    (hS : S w c G Z ((C, m) :: ns) ((I2, io2) :: (T2, tupObj ws) :: lD ys kk) s) (hmu : m (Str.ofString "u") = some (.int (u : Nat) tu)) (hmv : m (Str.ofString "v") = some (.int (v : Nat) tv)) (hpre : OvAt Z ys pre)
    (fin : ∀ ys' Z' k' m' s', OvAt Z' ys' (pre ++ xs.map fun x => ([], u + v + x)) → Z.le Z' → m' (Str.ofString "u") = some (.int (u : Nat) tu) → S w c G Z' ((C, m') :: ns) ((T2, tupObj ws) :: lD ys' k') s' → R (.ok .next) s') :
    codeAny (model PG w) A (.compLoop e 2 (.ref I2) (.ref D) (mcEnv w L C)) R s := by
  subst he
  refine loop2 (fun n s' => ∃ i m' io Z' ys' k', n = ws.length - i ∧ i ≤ ws.length ∧ (kTuple T2 ws).J i io ∧ Z.le Z' ∧ OvAt Z' ys' (pre ++ (xs.take i).map fun x => ([], u + v + x)) ∧ m' (Str.ofString "u") = some (.int (u : Nat) tu) ∧ m' (Str.ofString "v") = some (.int (v : Nat) tv) ∧
    S w c G Z' ((C, m') :: ns) ((I2, io) :: (T2, tupObj ws) :: lD ys' k') s') ?_ _ ⟨0, m, io2, Z, ys, kk, rfl, Nat.zero_le _, hJ, .refl _, by simpa using hpre, hmu, hmv, hS⟩
  rintro n s' E ⟨i, m', io, Z', ys', k', rfl, hi, hJ', hle, hov, hu, hv, hS'⟩
  refine next_it (itr_tuple hr.handled I2 T2 hne ws) hS' hJ' hi ⟨_, hS'.own' (.tail _ (.head _)), rfl, _, rfl⟩ (fun a ha => by rw [hT] at ha; cases ha) ?_ ?_
  · rintro rfl s4 hS4
    have e : (kTuple T2 ws).n = xs.length := hx.length
    rw [e, List.take_length] at hov
    exact fin ys' Z' k' m' s4 hov hle hu hS4
  · intro hlt val io' s4 hP hJ2 hS4
    obtain ⟨x, tx, rfl, hxi⟩ := hx.at hP
    have htm := take_map (f := fun x => (([] : List Str), u + v + x)) hxi
    refine wpAny_pure ?_
    refine wpAny_assign_Name (st hS4 fun s5 hS5 => ?_)
    with_reducible refine mk_tuple ?_
    with_reducible refine args_cons ?_
    with_reducible refine mk_list ?_
    with_reducible refine args_nil ?_
    refine ⟨_, _, _, _, _, hS5, by decide, fun H s6 hHc hS6 => ?_⟩
    have hzH := hS6.zo H (List.mem_append_right _ (.head _))
    have hS7 := hS6.freeze hHc
    refine args_one ?_
    with_reducible refine wpAny_BinOp ?_
    with_reducible refine wpAny_BinOp ?_
    with_reducible refine ld hS7 (v := .int (u : Nat) tu) ?_ ?_
    · walk_at "lk"
    with_reducible refine ld hS7 (v := .int (v : Nat) tv) ?_ ?_
    · walk_at "lk"
    with_reducible refine add_int ?_
    have hS8 := hS7.toks (s6.toks + 1)
    refine ld hS8 (v := .int (x : Nat) tx) (by walk_at "lk") (add_int ?_)
    have hS9 := hS8.toks (s6.toks + 1 + 1)
    refine ⟨_, _, _, _, _, hS9, (by show 2 ≤ sizeLine; decide), fun T s10 hTc hS10 => ?_⟩
    have hzT := hS10.zo T (List.mem_append_right _ (.head _))
    have hS11 := hS10.freeze hTc
    have hle7 := Zone.put_le (Z := Z') (W.listOf ([] : List Value).toArray 0) hzH
    have hle11 := Zone.put_le (Z := Z'.put H (W.listOf ([] : List Value).toArray 0)) (tupObj [Value.ref H, Value.int ((u : Nat) + (v : Nat) + (x : Nat)) (s6.toks + 1)]) hzT
    have hyl : ys'.length ≤ 1000 := by
      rw [hov.length, List.length_append, List.length_map, List.length_take]
      have := hpl; omega
    refine app_own hS11 (.tail (.tail (by have := uD ys' k' (Value.ref T); rw [← List.push_toArray] at this; exact this))) (by rw [List.size_toArray, sizeLine_eq]; omega) fun s12 hS12 => ?_
    refine ⟨ws.length - (i + 1), by have : i < ws.length := hlt; omega, i + 1, (fun y => if y = Str.ofString "w" then some (.int (x : Nat) tx) else m' y), io', _, ys' ++ [Value.ref T], k' + 1, rfl, hlt, hJ2, hle.trans (hle7.trans hle11), ?_, by walk_at "lk", by walk_at "lk", hS12⟩
    rw [htm, ← List.append_assoc]
    refine (hov.mono (hle7.trans hle11)).append (.cons (o := u + v + x) (hs := []) (t := s6.toks + 1) ?_ (hle11 _ _ Zone.put_self) .nil .nil)
    have e2 : (((u + v + x : Nat)) : Int) = (u : Int) + (v : Int) + (x : Int) := by omega
    rw [e2]; exact Zone.put_self
end
section
variable {w : World} {c : Ctx0} {G : Array GenState} {Z : Zone} {ns : List (Addr × (Str → Option Value))} {l : List (Addr × Obj)} {s : Shared} {A : Around} {E : Value → Shared → Prop} {R : Result → Shared → Prop}
theorem md_loop1 {L C D I1 T1 : Addr} {io1 : Obj} {m : Str → Option Value} {l : List (Addr × Obj)} {vs : List Value} {xs : List Nat} {u : Nat} {tu : Tok} {ys : List Value} {kk : Nat} {pre : List (List Str × Nat)} {e : PySem.Expr} (he : e = mdComp w.params) (hr : Rm A 20) (hT : c.T = [])
    (hne : T1 ≠ I1) (hJ : (kTuple T1 vs).J 0 io1) (hx : NatsV vs xs) (hpl : pre.length + xs.length * 2 ≤ 1000)
    (hS : S w c G Z ((C, m) :: ns) ((I1, io1) :: (T1, tupObj vs) :: (D, W.listOf ys.toArray kk) :: l) s) (hmu : m (Str.ofString "u") = some (.int (u : Nat) tu)) (hpre : OvAt Z ys pre) (hD : ∀ p ∈ (I1, io1) :: (T1, tupObj vs) :: (D, W.listOf ys.toArray kk) :: l, True)
    (fin : ∀ ys' Z' k' m' s', OvAt Z' ys' (pre ++ xs.flatMap fun v => [0, 2].map fun x => (([] : List Str), u + v + x)) → Z.le Z' → S w c G Z' ((C, m') :: ns) ((T1, tupObj vs) :: (D, W.listOf ys'.toArray k') :: l) s' → R (.ok .next) s') :
    codeAny (model PG w) A (.compLoop e 1 (.ref I1) (.ref D) (mcEnv w L C)) R s := by
  subst he
  refine loop1 (fun n s' => ∃ (i : Nat) (m' : Str → Option Value) (io : Obj) (Z' : Zone) (ys' : List Value) (k' : Nat), n = vs.length - i ∧ i ≤ vs.length ∧ (kTuple T1 vs).J i io ∧ Z.le Z' ∧ OvAt Z' ys' (pre ++ (xs.take i).flatMap fun v => [0, 2].map fun x => (([] : List Str), u + v + x)) ∧ m' (Str.ofString "u") = some (.int (u : Nat) tu) ∧
    S w c G Z' ((C, m') :: ns) ((I1, io) :: (T1, tupObj vs) :: (D, W.listOf ys'.toArray k') :: l) s') (by kernel_rfl) ?_ _ ⟨0, m, io1, Z, ys, kk, rfl, Nat.zero_le _, hJ, .refl _, by simpa using hpre, hmu, hS⟩
  rintro n s' E ⟨i, m', io, Z', ys', k', rfl, hi, hJ', hle, hov, hu, hS'⟩
  refine next_it (itr_tuple hr.handled I1 T1 hne vs) hS' hJ' hi ⟨_, hS'.own' (.tail _ (.head _)), rfl, _, rfl⟩ (fun a ha => by rw [hT] at ha; cases ha) ?_ ?_
  · rintro rfl s4 hS4
    have e : (kTuple T1 vs).n = xs.length := hx.length
    rw [e, List.take_length] at hov
    exact fin ys' Z' k' m' s4 hov hle hS4
  · intro hlt val io' s4 hP hJ2 hS4
    obtain ⟨v, tv, rfl, hvi⟩ := hx.at hP
    have htm := take_fm (f := fun v => [0, 2].map fun x => (([] : List Str), u + v + x)) hvi
    have hlx : vs.length = xs.length := hx.length
    have hlt' : i < vs.length := hlt
    refine wpAny_pure ?_
    refine wpAny_assign_Name (st hS4 fun s5 hS5 => ?_)
    with_reducible refine mk_tuple ?_
    with_reducible refine args_cons ?_
    with_reducible refine con_int hS5 fun t6 s6 hS6 => ?_
    with_reducible refine args_one ?_
    with_reducible refine con_int hS6 fun t7 s7 hS7 => ?_
    refine ⟨_, _, _, _, _, hS7, (by show 2 ≤ sizeLine; decide), fun T2 s8 hTc hS8 => ?_⟩
    refine iter_tuple hS8 (hS8.own' (.head _)) fun I2 io2 s9 hne2 hJ2' _ hS9 => ?_
    have hlen : (pre ++ (xs.take i).flatMap fun v => [0, 2].map fun x => (([] : List Str), u + v + x)).length + 2 ≤ 1000 := by
      have : ((xs.take i).flatMap fun v => [0, 2].map fun x => (([] : List Str), u + v + x)).length = i * 2 := by
        rw [List.length_flatMap]
        have : ∀ zs : List Nat, (zs.map fun v => ([0, 2].map fun x => (([] : List Str), u + v + x)).length).sum = zs.length * 2 := by
          intro zs
          induction zs with
          | nil => rfl
          | cons z zs ih => rw [List.map_cons, List.sum_cons, ih, List.length_cons]; show 2 + _ = _; omega
        rw [this, List.length_take]; omega
      rw [List.length_append, this]
      omega
    have inner : ∀ {I2 : Addr} {io2 : Obj} {s9 : Shared} {R2 : Result → Shared → Prop}, T2 ≠ I2 → (kTuple T2 [Value.int 0 t6, Value.int 2 t7]).J 0 io2 → S w c G Z' (((mcEnv w L C).locals, fun y => if y = Str.ofString "v" then some (Value.int ((v : Nat) : Int) tv) else m' y) :: ns) ((I2, io2) :: (T2, tupObj [Value.int 0 t6, Value.int 2 t7]) :: (I1, io') :: (T1, tupObj vs) :: (D, W.listOf ys'.toArray k') :: l) s9 →
        (∀ ys3 Z3 k3 m3 s10, OvAt Z3 ys3 (pre ++ (xs.take (i + 1)).flatMap fun v => [0, 2].map fun x => (([] : List Str), u + v + x)) → Z.le Z3 → m3 (Str.ofString "u") = some (.int (u : Nat) tu) → S w c G Z3 ((C, m3) :: ns) ((I1, io') :: (T1, tupObj vs) :: (D, W.listOf ys3.toArray k3) :: l) s10 → R2 (.ok .next) s10) →
        codeAny (model PG w) A (.compLoop (mdComp w.params) 2 (.ref I2) (.ref D) (mcEnv w L C)) R2 s9 := by
      intro I2 io2 s9 R2 hne2 hJ2' hS9 hR
      refine md_loop2 (lD := fun ys k => (I1, io') :: (T1, tupObj vs) :: (D, W.listOf ys.toArray k) :: l) (u := u) (v := v) (tu := tu) (tv := tv) (xs := [0, 2]) (ws := [.int 0 t6, .int 2 t7]) rfl hr hT (fun ys k y => .tail (.tail .head)) hne2 hJ2' (.cons 0 t6 (.cons 2 t7 .nil)) hlen hS9 (got hu) put hov fun ys3 Z3 k3 m3 s10 hov3 hle3 hu3 hS10 => ?_
      refine hR ys3 Z3 k3 m3 s10 ?_ (hle.trans hle3) hu3 (hS10.sub (.refl _) (.cons _ (.refl _)))
      rw [htm, ← List.append_assoc]
      exact hov3
    refine start2 (inner hne2 hJ2' hS9 fun ys3 Z3 k3 m3 s10 hov3 hle3 hu3 hS10 => ⟨vs.length - (i + 1), by omega, i + 1, m3, io', Z3, ys3, k3, rfl, hlt', hJ2, hle3, hov3, hu3, hS10⟩) fun E2 => ?_
    exact (itr_tuple hr.handled I2 T2 hne2 [Value.int 0 t6, Value.int 2 t7]).self 0 _ _ E2 io2 (hS9.own' (.head _)) hJ2' ⟨_, hS9.own' (.tail _ (.head _)), rfl, _, rfl⟩ (inner hne2 hJ2' hS9 fun ys3 Z3 k3 m3 s10 hov3 hle3 hu3 hS10 => ⟨vs.length - (i + 1), by omega, i + 1, m3, io', Z3, ys3, k3, rfl, hlt', hJ2, hle3, hov3, hu3, hS10⟩)
noncomputable def rootsOf (xs : List Nat) : List (List Str × Nat) := xs.flatMap fun u => [0, 1, 17].flatMap fun v => [0, 2].map fun x => (([] : List Str), u + v + x)
theorem rootsOf_len : ∀ xs : List Nat, (rootsOf xs).length = xs.length * 6
  | [] => rfl
  | x :: xs => by
    show (List.flatMap _ (x :: xs)).length = _
    rw [List.flatMap_cons, List.length_append]
    have ih := rootsOf_len xs
    unfold rootsOf at ih
    rw [ih, List.length_cons]
    show 6 + _ = _; omega
theorem md_loop0 {L C D I0 T0 : Addr} {io0 : Obj} {m : Str → Option Value} {l : List (Addr × Obj)} {us : List Value} {xs : List Nat} {e : PySem.Expr} (he : e = mdComp w.params) (hr : Rm A 20) (hT : c.T = [])
    (hne : T0 ≠ I0) (hJ : (kTuple T0 us).J 0 io0) (hx : NatsV us xs) (hpl : xs.length ≤ 10)
    (hS : S w c G Z ((C, m) :: ns) ((I0, io0) :: (D, W.listOf ([] : List Value).toArray 0) :: (T0, tupObj us) :: l) s)
    (fin : ∀ ys' Z' k' m' s', OvAt Z' ys' (rootsOf xs) → Z.le Z' → S w c G Z' ((C, m') :: ns) ((D, W.listOf ys'.toArray k') :: (T0, tupObj us) :: l) s' → R (.ok .next) s') :
    codeAny (model PG w) A (.compLoop e 0 (.ref I0) (.ref D) (mcEnv w L C)) R s := by
  subst he
  refine loop0 (fun n s' => ∃ (i : Nat) (m' : Str → Option Value) (io : Obj) (Z' : Zone) (ys' : List Value) (k' : Nat), n = us.length - i ∧ i ≤ us.length ∧ (kTuple T0 us).J i io ∧ Z.le Z' ∧ OvAt Z' ys' (rootsOf (xs.take i)) ∧
    S w c G Z' ((C, m') :: ns) ((I0, io) :: (D, W.listOf ys'.toArray k') :: (T0, tupObj us) :: l) s') (by kernel_rfl) ?_ _ ⟨0, m, io0, Z, [], 0, rfl, Nat.zero_le _, hJ, .refl _, .nil, hS⟩
  rintro n s' E ⟨i, m', io, Z', ys', k', rfl, hi, hJ', hle, hov, hS'⟩
  refine next_it (itr_tuple hr.handled I0 T0 hne us) hS' hJ' hi ⟨_, hS'.own' (.tail _ (.tail _ (.head _))), rfl, _, rfl⟩ (fun a ha => by rw [hT] at ha; cases ha) ?_ ?_
  · rintro rfl s4 hS4
    have e : (kTuple T0 us).n = xs.length := hx.length
    rw [e, List.take_length] at hov
    exact fin ys' Z' k' m' s4 hov hle hS4
  · intro hlt val io' s4 hP hJ2 hS4
    obtain ⟨u, tu, rfl, hui⟩ := hx.at hP
    have htm : rootsOf (xs.take (i + 1)) = rootsOf (xs.take i) ++ ([0, 1, 17].flatMap fun v => [0, 2].map fun x => (([] : List Str), u + v + x)) := take_fm hui
    have hlx : us.length = xs.length := hx.length
    have hlt' : i < us.length := hlt
    refine wpAny_pure ?_
    refine wpAny_assign_Name (st hS4 fun s5 hS5 => ?_)
    with_reducible refine mk_tuple ?_
    with_reducible refine args_cons ?_
    with_reducible refine con_int hS5 fun t6 s6 hS6 => ?_
    with_reducible refine args_cons ?_
    with_reducible refine con_int hS6 fun t7 s7 hS7 => ?_
    with_reducible refine args_one ?_
    with_reducible refine con_int hS7 fun t8 s8 hS8 => ?_
    refine ⟨_, _, _, _, _, hS8, (by show 3 ≤ sizeLine; decide), fun T1 s9 hTc hS9 => ?_⟩
    refine iter_tuple hS9 (hS9.own' (.head _)) fun I1 io1 s10 hne1 hJ1 _ hS10 => ?_
    have hlen : (rootsOf (xs.take i)).length + ([0, 1, 17] : List Nat).length * 2 ≤ 1000 := by
      rw [rootsOf_len, List.length_take]; show _ + 6 ≤ _; omega
    have inner : ∀ {I1 : Addr} {io1 : Obj} {s10 : Shared} {R2 : Result → Shared → Prop}, T1 ≠ I1 → (kTuple T1 [Value.int 0 t6, Value.int 1 t7, Value.int 17 t8]).J 0 io1 → S w c G Z' (((mcEnv w L C).locals, fun y => if y = Str.ofString "u" then some (Value.int ((u : Nat) : Int) tu) else m' y) :: ns) ((I1, io1) :: (T1, tupObj [Value.int 0 t6, Value.int 1 t7, Value.int 17 t8]) :: (I0, io') :: (D, W.listOf ys'.toArray k') :: (T0, tupObj us) :: l) s10 →
        (∀ ys3 Z3 k3 m3 s10, OvAt Z3 ys3 (rootsOf (xs.take (i + 1))) → Z.le Z3 → S w c G Z3 ((C, m3) :: ns) ((I0, io') :: (D, W.listOf ys3.toArray k3) :: (T0, tupObj us) :: l) s10 → R2 (.ok .next) s10) →
        codeAny (model PG w) A (.compLoop (mdComp w.params) 1 (.ref I1) (.ref D) (mcEnv w L C)) R2 s10 := by
      intro I1 io1 s10 R2 hne1 hJ1 hS10 hR
      have hS11 := hS10.perm (l' := (I1, io1) :: (T1, tupObj [Value.int 0 t6, Value.int 1 t7, Value.int 17 t8]) :: (D, W.listOf ys'.toArray k') :: (I0, io') :: (T0, tupObj us) :: l) (((List.Perm.swap _ _ _).cons _).cons _)
      refine md_loop1 (u := u) (tu := tu) (xs := [0, 1, 17]) (vs := [.int 0 t6, .int 1 t7, .int 17 t8]) rfl hr hT hne1 hJ1 (.cons 0 t6 (.cons 1 t7 (.cons 17 t8 .nil))) hlen hS11 put hov (fun _ _ => trivial) fun ys3 Z3 k3 m3 s12 hov3 hle3 hS12 => ?_
      refine hR ys3 Z3 k3 m3 s12 (by rw [htm]; exact hov3) (hle.trans hle3) ((hS12.sub (.refl _) (.cons _ (.refl _))).perm (List.Perm.swap _ _ _))
    refine start1 (inner hne1 hJ1 hS10 fun ys3 Z3 k3 m3 s10 hov3 hle3 hS10 => ⟨us.length - (i + 1), by omega, i + 1, m3, io', Z3, ys3, k3, rfl, hlt', hJ2, hle3, hov3, hS10⟩) fun E2 => ?_
    exact (itr_tuple hr.handled I1 T1 hne1 [Value.int 0 t6, Value.int 1 t7, Value.int 17 t8]).self 0 _ _ E2 io1 (hS10.own' (.head _)) hJ1 ⟨_, hS10.own' (.tail _ (.head _)), rfl, _, rfl⟩ (inner hne1 hJ1 hS10 fun ys3 Z3 k3 m3 s10 hov3 hle3 hS10 => ⟨us.length - (i + 1), by omega, i + 1, m3, io', Z3, ys3, k3, rfl, hlt', hJ2, hle3, hov3, hS10⟩)
/-- roots = [..] -/
theorem md_roots {L : Addr} {m : Str → Option Value} {Q : Flow → Shared → Prop} {st' : Stmt} (hst : st' = mdRoots w.params) (hr : Rm A 20) (hT : c.T = []) (hS : S w c G Z (((mdEnv w L).locals, m) :: ns) l s)
    (k : ∀ D ys Z' n s', c.sc.heap.get? D = none → OvAt Z' ys (rootsOf [0, 8, 12]) → Z.le Z' → S w c G Z' (((mdEnv w L).locals, fun y => if y = Str.ofString "roots" then some (.ref D) else m y) :: ns) ((D, W.listOf ys.toArray n) :: l) s' → Q .next s') :
    wpAny (model PG w) A (exec st' (mdEnv w L)) Q E s := by
  subst hst
  refine comp3_asg (cl := []) ?_
  with_reducible refine mk_tuple ?_
  with_reducible refine args_cons ?_
  with_reducible refine con_int hS fun t6 s6 hS6 => ?_
  with_reducible refine args_cons ?_
  with_reducible refine con_int hS6 fun t7 s7 hS7 => ?_
  with_reducible refine args_one ?_
  with_reducible refine con_int hS7 fun t8 s8 hS8 => ?_
  refine ⟨_, _, _, _, _, hS8, (by show 3 ≤ sizeLine; decide), fun T0 s9 hTc hS9 => ?_⟩
  refine iter_tuple hS9 (hS9.own' (.head _)) fun I0 io0 s10 hne hJ _ hS10 => ?_
  refine ⟨c, G, Z, m, ns, _, I0, io0, kTuple T0 [Value.int 0 t6, Value.int 8 t7, Value.int 12 t8], fun ys Z' => OvAt Z' ys (rootsOf [0, 8, 12]), rfl, itr_tuple hr.handled I0 T0 hne _, hJ, hS10, hT, fun ns' a b s hS' => ⟨_, hS'.own' (.tail _ (.tail _ (.head _))), rfl, _, rfl⟩, ?_, ?_⟩
  · intro C D m' s' R hS' fin
    exact md_loop0 rfl hr hT hne hJ (.cons 0 t6 (.cons 8 t7 (.cons 12 t8 .nil))) (by decide) hS' fun ys' Z' k' m'' s'' hov hle hS'' => fin ys' Z' m'' k' s'' hov hle hS''
  · intro D ys Z' n s' hD hov hle hS'
    exact k D ys Z' n s' hD hov hle (hS'.sub (.refl _) (.cons_cons _ (.cons _ (.refl _))))
end
noncomputable def setOne (n : Nat) (f : Str → Nat) (x : Str) : Str → Nat := fun y => if y = x then f x + 2 ^ n else f y
noncomputable def mdStep (st : List Nat × (Str → Nat)) (p : List Str × Nat) : List Nat × (Str → Nat) := (st.1 ++ [p.2 + 2 ^ st.1.length], p.1.foldl (setOne st.1.length) st.2)
noncomputable def mdFor (P : Params) : Stmt := match bodyAt P 244 with
  | _ :: _ :: a :: _ => a
  | _ => .Pass ⟨0, 0, 0, 0⟩
noncomputable def mdBody (P : Params) : List Stmt := match mdFor P with
  | .For _ _ b _ _ => b
  | _ => []
noncomputable def mdNames (P : Params) : Stmt := match mdBody P with
  | a :: _ => a
  | _ => .Pass ⟨0, 0, 0, 0⟩
section
variable {w : World} {c : Ctx0} {G : Array GenState} {Z : Zone} {ns : List (Addr × (Str → Option Value))} {l : List (Addr × Obj)} {s : Shared} {A : Around} {E : Value → Shared → Prop} {R : Result → Shared → Prop}
theorem pow_two (i : Nat) : ((2 : Int) ^ ((i : Nat) : Int).toNat) = ((2 ^ i : Nat) : Int) := by rw [Int.toNat_natCast]; simp
/-- 2 ** len(above) -/
theorem pow_len {L Ab : Addr} {m : Str → Option Value} {avs : List Value} {an : Nat} {p1 p2 p3 p4 p5 : Pos} {k1 : Nat} {Q : Value → Shared → Prop} (hS : S w c G Z (((mdEnv w L).locals, m) :: ns) l s) (hm : m (Str.ofString "above") = some (.ref Ab)) (hAb : (Ab, W.listOf avs.toArray an) ∈ l) (hl : avs.length ≤ 1000)
    (hq : ∀ t s', S w c G Z (((mdEnv w L).locals, m) :: ns) l s' → Q (.int (2 ^ avs.length : Nat) t) s')
    (hbs : starEach [.Name (Str.ofString "above") p3] (mdEnv w L) = (false, eval (.Name (Str.ofString "above") p3) (mdEnv w L)) :: starEach [] (mdEnv w L) := by kernel_rfl)
    (hbs1 : starEach [.Name (Str.ofString "above") p3] (mdEnv w L) = [(false, eval (.Name (Str.ofString "above") p3) (mdEnv w L))] := by kernel_rfl) (hbp : (backTo p4 (starEach [] (mdEnv w L))).any (·.1) = false := by kernel_rfl) :
    wpAny (model PG w) A (eval (.BinOp (.Constant (.int 2) k1 p1) .Pow (.Call (.Name (Str.ofString "len") p2) [.Name (Str.ofString "above") p3] [] p4) p5) (mdEnv w L)) Q E s := by
  with_reducible refine wpAny_BinOp ?_
  with_reducible refine con_int hS fun t1 s1 hS1 => ?_
  with_reducible refine callB (id := "len") ?_ hbs hbp
  with_reducible refine is_ldb hS1.toZ0 (by kernel_rfl) (by kernel_rfl) ?_
  with_reducible refine args_one ?_ hbs1
  with_reducible refine ld hS1 hm ?_
  have hz := hS1.own' hAb
  have hsz : avs.toArray.size ≤ 1000 := by rw [List.size_toArray]; exact hl
  with_reducible refine len_ok hS1 hz hsz fun t2 s2 hS2 => ?_
  rw [List.size_toArray]
  refine pow_int_small (by omega) (by omega) (by decide) ?_
  rw [pow_two]
  exact hq _ _ (hS2.toks _)
/-- for name in here: masks[name] = .. -/
inductive MdI (w : World) (c : Ctx0) (G : Array GenState) (Z : Zone) (ns : List (Addr × (Str → Option Value))) (l : List (Addr × Obj)) (L I Ab M H : Addr) (m : Str → Option Value) (avs hs : List Value) (an : Nat) (all xs : List Str) (f : Str → Nat) (k' : Nat) (s' : Shared) : Prop
  | mk (i : Nat) (m' : Str → Option Value) (io mo' : Obj) (h1 : k' = hs.length - i) (h2 : i ≤ hs.length) (h3 : (kList H hs).J i io) (h4 : DictNums w mo' all ((xs.take i).foldl (setOne avs.length) f)) (h5 : ∀ y, y ≠ Str.ofString "name" → m' y = m y)
      (hS : S w c G Z (((mdEnv w L).locals, m') :: ns) ((I, io) :: (M, mo') :: (Ab, W.listOf avs.toArray an) :: l) s') : MdI w c G Z ns l L I Ab M H m avs hs an all xs f k' s'
theorem md_names {L Ab M H : Addr} {mo : Obj} {m : Str → Option Value} {avs hs : List Value} {an hn : Nat} {all xs : List Str} {f : Str → Nat} {Q : Flow → Shared → Prop} {st' : Stmt} (hst : st' = mdNames w.params) (hr : Rm A 20) (hT : c.T = [])
    (hS : S w c G Z (((mdEnv w L).locals, m) :: ns) ((M, mo) :: (Ab, W.listOf avs.toArray an) :: l) s) (hm1 : m (Str.ofString "above") = some (.ref Ab)) (hm2 : m (Str.ofString "masks") = some (.ref M)) (hm3 : m (Str.ofString "here") = some (.ref H)) (hl : avs.length ≤ 100)
    (hH : Z H = some (W.listOf hs.toArray hn)) (hx : StrsV hs xs) (hin : ∀ x ∈ xs, x ∈ all) (hall : all.length ≤ 5) (hd : DictNums w mo all f)
    (k : ∀ mo' m' s', DictNums w mo' all (xs.foldl (setOne avs.length) f) → (∀ y, y ≠ Str.ofString "name" → m' y = m y) → S w c G Z (((mdEnv w L).locals, m') :: ns) ((M, mo') :: (Ab, W.listOf avs.toArray an) :: l) s' → Q .next s') :
    wpAny (model PG w) A (exec st' (mdEnv w L)) Q E s := by
  subst hst
  refine wpAny_For ?_ (fun _ => rfl)
  with_reducible refine ld hS hm3 ?_
  refine iter_list hS (hS.z _ _ hH) fun I io s3 hne hJ _ hS3 => ?_
  refine forLoopJ (MdI w c G Z ns l L I Ab M H m avs hs an all xs f) ?_ _ ⟨0, m, io, mo, rfl, Nat.zero_le _, hJ, hd, fun _ _ => rfl, hS3⟩
  intro JJ jj E
  rintro k' s' ⟨i, m', io', mo', rfl, hi, hJ', hd', hm', hS'⟩
  refine next_it (itr_list hr.handled I H hne hs) hS' hJ' hi (isList_of (hS'.z _ _ hH)) (fun a ha => by rw [hT] at ha; cases ha) ?_ ?_
  · rintro rfl s4 hS4
    refine wpAny_execs_nil ?_
    have e : (kList H hs).n = xs.length := hx.length
    rw [e, List.take_length] at hd'
    exact k mo' m' s4 hd' hm' hS4
  · intro hlt val io2 s4 hP hJ2 hS4
    obtain ⟨x, tx, rfl, hxi⟩ := hx.at hP
    have hlt' : i < hs.length := hlt
    refine wpAny_pure ?_
    refine wpAny_assign_Name (st hS4 fun s5 hS5 => ?_)
    have hm1' : (if Str.ofString "above" = Str.ofString "name" then some (Value.str x tx) else m' (Str.ofString "above")) = some (.ref Ab) := got ((hm' _ (by decide)).trans hm1)
    have hm2' : (if Str.ofString "masks" = Str.ofString "name" then some (Value.str x tx) else m' (Str.ofString "masks")) = some (.ref M) := got ((hm' _ (by decide)).trans hm2)
    have hxa := hin x (List.mem_of_getElem? hxi)
    refine wpAny_execs_cons ?_
    with_reducible refine wpAny_Assign_Subscript ?_ (by kernel_rfl)
    with_reducible refine wpAny_BinOp ?_
    with_reducible refine Subscript_ ?_
    with_reducible refine ld hS5 hm2' ?_
    with_reducible refine ld hS5 put ?_
    refine item_nums hS5 (.tail _ (.head _)) hd' hxa fun t6 s6 hS6 => ?_
    refine pow_len hS6 hm1' (.tail _ (.tail _ (.head _))) (by omega) fun t7 s7 hS7 => ?_
    generalize hf : (xs.take i).foldl (setOne avs.length) f = f' at *
    refine add_int ?_
    have hS8 := hS7.toks (s7.toks + 1)
    rw [show ((f' x : Nat) : Int) + ((2 ^ avs.length : Nat) : Int) = ((f' x + 2 ^ avs.length : Nat) : Int) by omega]
    with_reducible refine ld hS8 hm2' ?_
    with_reducible refine ld hS8 put ?_
    refine set_nums (l' := fun mo2 => (I, io2) :: (M, mo2) :: (Ab, W.listOf avs.toArray an) :: l) hS8 (fun mo2 => .tail .head) hd' hxa hall fun mo2 s9 hd2 hS9 => ?_
    refine wpAny_execs_nil ?_
    refine ⟨hs.length - (i + 1), by omega, jj _ _ ⟨i + 1, _, io2, mo2, rfl, hlt', hJ2, ?_, ?_, hS9⟩⟩
    · have e1 : xs.take (i + 1) = xs.take i ++ [x] := by rw [List.take_add_one, hxi]; rfl
      rw [e1, List.foldl_append, hf]
      exact hd2
    · intro y hy
      rw [if_neg hy]; exact hm' y hy
end
noncomputable def leaves5 (one two : Str) : List (List Str × Nat) := [([one], 0), ([one], 8), ([two], 0), ([two], 1), ([one, two], 0)]
noncomputable def mdSpec (one two : Str) : List Nat × (Str → Nat) := (rootsOf [0, 8, 12] ++ leaves5 one two).foldl mdStep ([1, 2, 12, 8, 17], fun y => if y = two then 1 else if y = one then 8 else 31)
theorem mdStep_len (st : List Nat × (Str → Nat)) (ps : List (List Str × Nat)) : (ps.foldl mdStep st).1.length = st.1.length + ps.length := by
  induction ps generalizing st with
  | nil => rfl
  | cons p ps ih => rw [List.foldl_cons, ih]; unfold mdStep; simp; omega
section
variable {w : World} {c : Ctx0} {G : Array GenState} {Z : Zone} {ns : List (Addr × (Str → Option Value))} {l : List (Addr × Obj)} {s : Shared} {A : Around} {E : Value → Shared → Prop} {R : Result → Shared → Prop}
/-- ([n], o) -/
theorem ov_one {env : Env} {m : Str → Option Value} {n x : Str} {tx : Tok} {p1 p2 p3 p4 : Pos} {k1 k2 : Nat} {o : Nat} {i : Int} {Q : Value → Shared → Prop} (hi : i = (o : Int)) (hS : S w c G Z ((env.locals, m) :: ns) l s) (hm : m n = some (.str x tx))
    (k : ∀ T H t Z' s', Z.le Z' → Z' T = some (tupObj [.ref H, .int ((o : Nat) : Int) t]) → Z' H = some (W.listOf [Value.str x tx].toArray 0) → S w c G Z' ((env.locals, m) :: ns) l s' → Q (.ref T) s')
    (hk : env.scope.kind = .function := by kernel_rfl) (hl : env.kindOf n = some .local := by kernel_rfl) (hd : (n == ("__debug__" : Str)) = false := by decide)
    (he1 : starEach [.List [.Name n p1] p2, .Constant (.int i) k1 p3] env = (false, eval (.List [.Name n p1] p2) env) :: starEach [.Constant (.int i) k1 p3] env := by kernel_rfl)
    (he2 : starEach [PySem.Expr.Constant (.int i) k1 p3] env = [(false, eval (.Constant (.int i) k1 p3) env)] := by kernel_rfl)
    (he3 : starEach [PySem.Expr.Name n p1] env = [(false, eval (.Name n p1) env)] := by kernel_rfl) :
    wpAny (model PG w) A (eval (.Tuple [.List [.Name n p1] p2, .Constant (.int i) k1 p3] k2 p4) env) Q E s := by
  subst hi
  with_reducible refine mk_tuple ?_
  with_reducible refine args_cons ?_ he1
  with_reducible refine mk_list ?_
  with_reducible refine args_one ?_ he3
  with_reducible refine ld hS hm ?_ hk hl hd
  refine ⟨_, _, _, _, _, hS, (by show 1 ≤ sizeLine; decide), fun H s1 hH hS1 => ?_⟩
  have hz1 := hS1.zo H (List.mem_append_right _ (.head _))
  have hS2 := hS1.freeze hH
  with_reducible refine args_one ?_ he2
  with_reducible refine con_int hS2 fun t3 s3 hS3 => ?_
  refine ⟨_, _, _, _, _, hS3, (by show 2 ≤ sizeLine; decide), fun T s4 hT hS4 => ?_⟩
  have hz4 := hS4.zo T (List.mem_append_right _ (.head _))
  have hle4 := Zone.put_le (Z := Z.put H (W.listOf [Value.str x tx].toArray 0)) (tupObj [.ref H, .int ((o : Nat) : Int) t3]) hz4
  exact k T H t3 _ s4 ((Zone.put_le _ hz1).trans hle4) Zone.put_self (hle4 _ _ Zone.put_self) (hS4.freeze hT)
/-- ([n1, n2], o) -/
theorem ov_two {env : Env} {m : Str → Option Value} {n x n' x' : Str} {tx tx' : Tok} {p1 p1' p2 p3 p4 : Pos} {k1 k2 : Nat} {o : Nat} {i : Int} {Q : Value → Shared → Prop} (hi : i = (o : Int)) (hS : S w c G Z ((env.locals, m) :: ns) l s) (hm : m n = some (.str x tx)) (hm' : m n' = some (.str x' tx'))
    (k : ∀ T H t Z' s', Z.le Z' → Z' T = some (tupObj [.ref H, .int ((o : Nat) : Int) t]) → Z' H = some (W.listOf [Value.str x tx, Value.str x' tx'].toArray 0) → S w c G Z' ((env.locals, m) :: ns) l s' → Q (.ref T) s')
    (hk : env.scope.kind = .function := by kernel_rfl) (hl : env.kindOf n = some .local := by kernel_rfl) (hl' : env.kindOf n' = some .local := by kernel_rfl) (hd : (n == ("__debug__" : Str)) = false := by decide) (hd' : (n' == ("__debug__" : Str)) = false := by decide)
    (he1 : starEach [.List [.Name n p1, .Name n' p1'] p2, .Constant (.int i) k1 p3] env = (false, eval (.List [.Name n p1, .Name n' p1'] p2) env) :: starEach [.Constant (.int i) k1 p3] env := by kernel_rfl)
    (he2 : starEach [PySem.Expr.Constant (.int i) k1 p3] env = [(false, eval (.Constant (.int i) k1 p3) env)] := by kernel_rfl)
    (he3 : starEach [PySem.Expr.Name n p1, .Name n' p1'] env = (false, eval (.Name n p1) env) :: starEach [.Name n' p1'] env := by kernel_rfl)
    (he4 : starEach [PySem.Expr.Name n' p1'] env = [(false, eval (.Name n' p1') env)] := by kernel_rfl) :
    wpAny (model PG w) A (eval (.Tuple [.List [.Name n p1, .Name n' p1'] p2, .Constant (.int i) k1 p3] k2 p4) env) Q E s := by
  subst hi
  with_reducible refine mk_tuple ?_
  with_reducible refine args_cons ?_ he1
  with_reducible refine mk_list ?_
  with_reducible refine args_cons ?_ he3
  with_reducible refine ld hS hm ?_ hk hl hd
  with_reducible refine args_one ?_ he4
  with_reducible refine ld hS hm' ?_ hk hl' hd'
  refine ⟨_, _, _, _, _, hS, (by show 2 ≤ sizeLine; decide), fun H s1 hH hS1 => ?_⟩
  have hz1 := hS1.zo H (List.mem_append_right _ (.head _))
  have hS2 := hS1.freeze hH
  with_reducible refine args_one ?_ he2
  with_reducible refine con_int hS2 fun t3 s3 hS3 => ?_
  refine ⟨_, _, _, _, _, hS3, (by show 2 ≤ sizeLine; decide), fun T s4 hT hS4 => ?_⟩
  have hz4 := hS4.zo T (List.mem_append_right _ (.head _))
  have hle4 := Zone.put_le (Z := Z.put H (W.listOf [Value.str x tx, Value.str x' tx'].toArray 0)) (tupObj [.ref H, .int ((o : Nat) : Int) t3]) hz4
  exact k T H t3 _ s4 ((Zone.put_le _ hz1).trans hle4) Zone.put_self (hle4 _ _ Zone.put_self) (hS4.freeze hT)
/-- the loop over all worlds to lay -/
inductive MfI (w : World) (c : Ctx0) (G : Array GenState) (Z : Zone) (ns : List (Addr × (Str → Option Value))) (l : List (Addr × Obj)) (L I D Ab M : Addr) (zs : List Value) (ps : List (List Str × Nat)) (all : List Str) (above : List Nat) (f : Str → Nat) (k' : Nat) (s' : Shared) : Prop
  | mk (i : Nat) (m' : Str → Option Value) (io mo' : Obj) (avs' : List Value) (an' : Nat) (h1 : k' = zs.length - i) (h2 : i ≤ zs.length) (h3 : (kList D zs).J i io) (h4 : NatsV avs' ((ps.take i).foldl mdStep (above, f)).1) (h5 : DictNums w mo' all ((ps.take i).foldl mdStep (above, f)).2)
      (h6 : m' (Str.ofString "above") = some (.ref Ab)) (h7 : m' (Str.ofString "masks") = some (.ref M)) (hS : S w c G Z (((mdEnv w L).locals, m') :: ns) ((I, io) :: (D, W.listOf zs.toArray 0) :: (Ab, W.listOf avs'.toArray an') :: (M, mo') :: l) s') : MfI w c G Z ns l L I D Ab M zs ps all above f k' s'
theorem md_for {L Ab M D : Addr} {mo : Obj} {m : Str → Option Value} {avs ys : List Value} {an dn : Nat} {one two : Str} {t1 t2 : Tok} {all : List Str} {f : Str → Nat} {above : List Nat} {rs : List (List Str × Nat)} {Q : Flow → Shared → Prop} {st' : Stmt} (hst : st' = mdFor w.params) (hr : Rm A 20) (hT : c.T = [])
    (hS : S w c G Z (((mdEnv w L).locals, m) :: ns) ((D, W.listOf ys.toArray dn) :: (Ab, W.listOf avs.toArray an) :: (M, mo) :: l) s) (hm1 : m (Str.ofString "above") = some (.ref Ab)) (hm2 : m (Str.ofString "masks") = some (.ref M)) (hm3 : m (Str.ofString "roots") = some (.ref D))
    (hm4 : m (Str.ofString "one") = some (.str one t1)) (hm5 : m (Str.ofString "two") = some (.str two t2)) (hav : NatsV avs above) (hl : above.length + rs.length ≤ 50) (h1 : one ∈ all) (h2 : two ∈ all) (hrs : ∀ p ∈ rs, ∀ x ∈ p.1, x ∈ all) (hov : OvAt Z ys rs) (hall : all.length ≤ 5) (hd : DictNums w mo all f)
    (k : ∀ Z' m' avs' an' mo' s', Z.le Z' → NatsV avs' ((rs ++ leaves5 one two).foldl mdStep (above, f)).1 → DictNums w mo' all ((rs ++ leaves5 one two).foldl mdStep (above, f)).2 → m' (Str.ofString "above") = some (.ref Ab) → m' (Str.ofString "masks") = some (.ref M) →
      S w c G Z' (((mdEnv w L).locals, m') :: ns) ((Ab, W.listOf avs'.toArray an') :: (M, mo') :: l) s' → Q .next s') :
    wpAny (model PG w) A (exec st' (mdEnv w L)) Q E s := by
  subst hst
  refine wpAny_For ?_ (fun _ => rfl)
  with_reducible refine wpAny_BinOp ?_
  with_reducible refine ld hS hm3 ?_
  with_reducible refine mk_list ?_
  with_reducible refine args_cons ?_
  with_reducible refine ov_one (o := 0) rfl hS hm4 fun T1 H1 u1 Z1 s1 hle1 hT1 hH1 hS1 => ?_
  with_reducible refine args_cons ?_
  with_reducible refine ov_one (o := 8) rfl hS1 hm4 fun T2 H2 u2 Z2 s2 hle2 hT2 hH2 hS2 => ?_
  with_reducible refine args_cons ?_
  with_reducible refine ov_one (o := 0) rfl hS2 hm5 fun T3 H3 u3 Z3 s3 hle3 hT3 hH3 hS3 => ?_
  with_reducible refine args_cons ?_
  with_reducible refine ov_one (o := 1) rfl hS3 hm5 fun T4 H4 u4 Z4 s4 hle4 hT4 hH4 hS4 => ?_
  with_reducible refine args_one ?_
  with_reducible refine ov_two (o := 0) rfl hS4 hm4 hm5 fun T5 H5 u5 Z5 s5 hle5 hT5 hH5 hS5 => ?_
  refine ⟨_, _, _, _, _, hS5, (by show 5 ≤ sizeLine; decide), fun D2 s6 _ hS6 => ?_⟩
  have l4 := hle5
  have l3 := hle4.trans l4
  have l2 := hle3.trans l3
  have l1 := hle2.trans l2
  have l0 := hle1.trans l1
  have hov5 : OvAt Z5 (ys ++ [.ref T1, .ref T2, .ref T3, .ref T4, .ref T5]) (rs ++ leaves5 one two) := (hov.mono l0).append (.cons (l1 _ _ hT1) (l1 _ _ hH1) (.cons _ _ .nil) (.cons (l2 _ _ hT2) (l2 _ _ hH2) (.cons _ _ .nil) (.cons (l3 _ _ hT3) (l3 _ _ hH3) (.cons _ _ .nil) (.cons (l4 _ _ hT4) (l4 _ _ hH4) (.cons _ _ .nil) (.cons hT5 hH5 (.cons _ _ (.cons _ _ .nil)) .nil)))))
  have hrs' : ∀ p ∈ rs ++ leaves5 one two, ∀ x ∈ p.1, x ∈ all := by
    intro p hp x hx
    rcases List.mem_append.mp hp with q | q
    · exact hrs p q x hx
    · simp only [leaves5, List.mem_cons, List.not_mem_nil, or_false] at q
      rcases q with rfl | rfl | rfl | rfl | rfl <;> simp only [List.mem_cons, List.not_mem_nil, or_false] at hx
      · exact hx ▸ h1
      · exact hx ▸ h1
      · exact hx ▸ h2
      · exact hx ▸ h2
      · rcases hx with rfl | rfl <;> assumption
  have hlen5 : (rs ++ leaves5 one two).length = rs.length + 5 := by rw [List.length_append]; rfl
  generalize rs ++ leaves5 one two = ps at *
  refine add_own hS6 (vs := ys) (ws := [.ref T1, .ref T2, .ref T3, .ref T4, .ref T5]) (hS6.own' (.tail _ (.head _))) (hS6.own' (.head _)) (by have := hov.length; rw [sizeLine_eq]; simp; omega) fun D3 s7 _ hS7 => ?_
  generalize ys ++ [Value.ref T1, .ref T2, .ref T3, .ref T4, .ref T5] = zs at *
  have hS7 := hS7.sub (l' := (D3, W.listOf zs.toArray 0) :: (Ab, W.listOf avs.toArray an) :: (M, mo) :: l) (.refl _) (.cons_cons _ (.cons _ (.cons _ (.refl _))))
  refine iter_list hS7 (hS7.own' (.head _)) fun I io s8 hne hJ _ hS8 => ?_
  refine forLoopJ (MfI w c G Z5 ns l L I D3 Ab M zs ps all above f) ?_ _ ⟨0, m, io, mo, avs, an, rfl, Nat.zero_le _, hJ, hav, hd, hm1, hm2, hS8⟩
  intro JJ jj E
  rintro k' s' ⟨i, m', io', mo', avs', an', rfl, hi, hJ', hav', hd', hma, hmm, hS'⟩
  have hzl : zs.length = ps.length := hov5.length
  refine next_it (itr_list hr.handled I D3 hne zs) hS' hJ' hi (isList_of (hS'.own' (.tail _ (.head _)))) (fun a ha => by rw [hT] at ha; cases ha) ?_ ?_
  · rintro rfl s9 hS9
    refine wpAny_execs_nil ?_
    have e : (kList D3 zs).n = ps.length := hzl
    rw [e, List.take_length] at hav' hd'
    exact k Z5 m' avs' an' mo' s9 l0 hav' hd' hma hmm (hS9.sub (.refl _) (.cons _ (.refl _)))
  · intro hlt val io2 s9 hP hJ2 hS9
    obtain ⟨T, H, o, hn, to, hs, xs, rfl, hps, hzT, hzH, hxs⟩ := hov5.at hP
    have hlt' : i < zs.length := hlt
    have hlen' : avs'.length ≤ 60 := by
      rw [hav'.length, mdStep_len]; show above.length + _ ≤ _; rw [List.length_take]; omega
    refine wpAny_letOwnedTupleGo_listiter (i := i + 1) (l := D3) ⟨io2, hS9.own' (.head _), hJ2.1, hJ2.2⟩ ?_
    refine assign_two hr.handled hS9 (hS9.z _ _ hzT) fun s10 hS10 => ?_
    have hS11 := hS10.perm (l' := (M, mo') :: (Ab, W.listOf avs'.toArray an') :: (I, io2) :: (D3, W.listOf zs.toArray 0) :: l) (by
      have p1 := List.perm_middle (a := (M, mo')) (l₁ := [(I, io2), (D3, W.listOf zs.toArray 0), (Ab, W.listOf avs'.toArray an')]) (l₂ := l)
      have p2 := (List.perm_middle (a := (Ab, W.listOf avs'.toArray an')) (l₁ := [(I, io2), (D3, W.listOf zs.toArray 0)]) (l₂ := l)).cons (M, mo')
      exact (p1.trans p2).symm)
    refine wpAny_execs_cons ?_
    generalize hst : (ps.take i).foldl mdStep (above, f) = stt at *
    refine md_names (f := stt.2) (by kernel_rfl) hr hT hS11 (got (got hma)) (got (got hmm)) (by walk_at "lk") (by omega) hzH hxs (fun x hx => hrs' _ (List.mem_of_getElem? hps) x hx) hall hd' fun mo2 m2 s12 hd2 hm2' hS12 => ?_
    have hma2 : m2 (Str.ofString "above") = some (.ref Ab) := (hm2' _ (by decide)).trans (got (got hma))
    have hmm2 : m2 (Str.ofString "masks") = some (.ref M) := (hm2' _ (by decide)).trans (got (got hmm))
    have hmo2 : m2 (Str.ofString "over") = some (.int (o : Nat) to) := (hm2' _ (by decide)).trans put
    refine wpAny_execs_cons (wpAny_Expr ?_)
    with_reducible refine append_own ?_
    with_reducible refine ld hS12 hma2 ?_
    refine ⟨Ab, avs'.toArray, an', rfl, hS12.own' (.tail _ (.head _)), ?_⟩
    with_reducible refine wpAny_BinOp ?_
    with_reducible refine ld hS12 hmo2 ?_
    refine pow_len hS12 hma2 (.tail _ (.head _)) (by omega) fun t13 s13 hS13 => ?_
    refine add_int ?_
    have hS14 := hS13.toks (s13.toks + 1)
    rw [show ((o : Nat) : Int) + ((2 ^ avs'.length : Nat) : Int) = ((o + 2 ^ avs'.length : Nat) : Int) by omega]
    refine ⟨_, _, _, _, _, _, hS14, .tail .head, (by rw [List.size_toArray, sizeLine_eq]; omega), fun s15 hS15 => ?_⟩
    rw [List.push_toArray] at hS15
    refine wpAny_execs_nil ?_
    have e1 : ps.take (i + 1) = ps.take i ++ [(xs, o)] := by rw [List.take_add_one, hps]; rfl
    refine ⟨zs.length - (i + 1), by omega, jj _ _ ⟨i + 1, m2, io2, mo2, avs' ++ [Value.int ((o + 2 ^ avs'.length : Nat) : Int) s13.toks], an' + 1, rfl, hlt', hJ2, ?_, ?_, hma2, hmm2, hS15.perm ?_⟩⟩
    · rw [e1, List.foldl_append, hst]
      show NatsV _ (stt.1 ++ [o + 2 ^ stt.1.length])
      rw [← hav'.length]
      exact hav'.snoc _ _
    · rw [e1, List.foldl_append, hst]
      show DictNums w mo2 all (xs.foldl (setOne stt.1.length) stt.2)
      rw [← hav'.length]
      exact hd2
    · have p1 := List.perm_middle (a := (M, mo2)) (l₁ := [(I, io2), (D3, W.listOf zs.toArray 0), (Ab, W.listOf (avs' ++ [Value.int ((o + 2 ^ avs'.length : Nat) : Int) s13.toks]).toArray (an' + 1))]) (l₂ := l)
      have p2 := (List.perm_middle (a := (Ab, W.listOf (avs' ++ [Value.int ((o + 2 ^ avs'.length : Nat) : Int) s13.toks]).toArray (an' + 1))) (l₁ := [(I, io2), (D3, W.listOf zs.toArray 0)]) (l₂ := l)).cons (M, mo2)
      exact p1.trans p2
end
section
variable {w : World} {c : Ctx0} {G : Array GenState} {Z : Zone} {s : Shared} {A : Around} {E Q : Value → Shared → Prop}
/-- x, y = .. told as two stores behind one another -/
theorem swap_two {c : Ctx0} {Z : Zone} {r : List (Addr × (Str → Option Value))} {l : List (Addr × Obj)} {env : Env} {m : Str → Option Value} {x y : Str} {T : Addr} {u v : Value} {Q : Unit → Shared → Prop} (hh : A.handled = none) (h : S w c G Z ((env.locals, m) :: r) l s) (hT : s.heap.get? T = some (tupObj [u, v]))
    (hq : ∀ s', S w c G Z ((env.locals, fun z => if z = x then some u else (fun z => if z = y then some v else m z) z) :: r) l s' → Q () s')
    (hlx : env.kindOf x = some .local := by kernel_rfl) (hly : env.kindOf y = some .local := by kernel_rfl) (hp : (env.scope.kind == .class || (env.scope.kind == .module && env.locals != env.globals)) = false := by kernel_rfl) :
    wpAny (model PG w) A (unpackItems (.ref T) [x, y].length none) (fun items s₂ => wpAny (model PG w) A (assignInOrder ([x, y].reverse.map fun n => bindName env n) items.reverse) Q E s₂) E s := by
  refine wpAny_unpackItems_tuple (items := #[u, v]) hh ⟨_, hT, rfl, _, rfl⟩ (fun h' he => ?_)
  have h1 : S w c G Z ((env.locals, m) :: r) l { s with heap := h' } := h.heapK fun b o e => he b o (Nat.ne_of_lt (Heap.lt_size e)) e
  show wpAny (model PG w) A (do holding [u] (bindName env y v); assignInOrder [bindName env x] [u]) _ E _
  refine wpAny_bind (wpAny_holding (wpAny_bindName (st h1 (fun s2 h2 => ?_) hly hp)))
  show wpAny (model PG w) A (do bindName env x u; assignInOrder [] []) _ E _
  exact wpAny_bind (wpAny_bindName (st h2 (fun s3 h3 => wpAny_pure (hq s3 h3)) hlx hp))
/-- _law_model(head, one, two) -/
theorem model_ok {head one two : Str} {th t1 t2 : Tok} (hr : Rm A 40) (h : Z0 w c G Z s) (h12 : head ≠ one) (h13 : head ≠ two) (h23 : one ≠ two)
    (k : ∀ T Ab M avs an mo s' Z', Z0 w ⟨c.H, s, [], Z⟩ G Z' s' → Z' T = some (tupObj [.ref Ab, .ref M]) → Z' Ab = some (W.listOf avs.toArray an) → NatsV avs (mdSpec one two).1 → Z' M = some mo → DictNums w mo [head, one, two] (mdSpec one two).2 → Q (.ref T) s') :
    wpAny (model PG w) A (call (.ref 244) [.str head th, .str one t1, .str two t2]) Q E s := by
  have h1 : (KF w).lookup 244 = some (obAt w.params 244) := by kernel_rfl
  have h2 : (obAt w.params 244).data = .func (fdAt w.params 244) := by kernel_rfl
  have h3 : codeIn (KF w) (fdAt w.params 244).code (fdAt w.params 244).qualname = true := by kernel_rfl
  have h4 : (fdAt w.params 244).body = .stmts (bodyAt w.params 244) := by kernel_rfl
  have h5 : bindArgs (fdAt w.params 244) ⟨[.str head th, .str one t1, .str two t2], []⟩ = pure [(Str.ofString "head", .str head th), (Str.ofString "one", .str one t1), (Str.ofString "two", .str two t2)] := by kernel_rfl
  refine wpAny_call ?_
  with_reducible refine enterN (fun y => if y = Str.ofString "two" then some (.str two t2) else (fun y => if y = Str.ofString "one" then some (.str one t1) else (fun y => if y = Str.ofString "head" then some (.str head th) else none) y) y) (fun L => []) (n := 39) hr h.kin h h1 h2 h3 h4 (bind_pure h5) (by kernel_rfl) (by kernel_rfl) ?_
  intro L s1 hS1 hr1
  refine wpAny_execs_cons ?_
  with_reducible refine Assign_Tuple_swapped (names := [Str.ofString "above", Str.ofString "masks"]) ?_ (by kernel_rfl) (by kernel_rfl)
  with_reducible refine mk_tuple ?_
  with_reducible refine args_cons ?_
  with_reducible refine mk_list ?_
  with_reducible refine args_cons ?_
  with_reducible refine con_int hS1 fun u2 s2 hS2 => ?_
  with_reducible refine args_cons ?_
  with_reducible refine con_int hS2 fun u3 s3 hS3 => ?_
  with_reducible refine args_cons ?_
  with_reducible refine con_int hS3 fun u4 s4 hS4 => ?_
  with_reducible refine args_cons ?_
  with_reducible refine con_int hS4 fun u5 s5 hS5 => ?_
  with_reducible refine args_one ?_
  with_reducible refine con_int hS5 fun u6 s6 hS6 => ?_
  refine ⟨_, _, _, _, _, hS6, (by show 5 ≤ sizeLine; decide), fun Ab s7 hAb hS7 => ?_⟩
  with_reducible refine args_one ?_
  refine mk_dict3 (a := head) (b := one) (x := two) (i := 31) (j := 8) (n := 1) hS7 h12 h13 h23 (fun {s' l' Q'} hS' kk => ?_) (fun M mo s8 hMc hd hS8 => ?_)
  · refine evalPairs_cons ?_
    refine ld hS' (v := .str head th) (by walk_at "lk") ?_
    refine wpAny_bind ?_
    with_reducible refine con_int hS' fun v2 s2 hS2 => ?_
    refine wpAny_bind (wpAny_standAt (wpAny_pure ?_))
    refine evalPairs_cons ?_
    refine ld hS2 (v := .str one t1) (by walk_at "lk") ?_
    refine wpAny_bind ?_
    with_reducible refine con_int hS2 fun v3 s3 hS3 => ?_
    refine wpAny_bind (wpAny_standAt (wpAny_pure ?_))
    refine evalPairs_cons ?_
    refine ld hS3 (v := .str two t2) (by walk_at "lk") ?_
    refine wpAny_bind ?_
    with_reducible refine con_int hS3 fun v4 s4 hS4 => ?_
    refine wpAny_bind (wpAny_standAt (wpAny_pure ?_))
    refine evalPairs_nil ?_
    exact kk _ _ _ _ _ _ _ hS4
  refine ⟨_, _, _, _, _, hS8, (by show 2 ≤ sizeLine; decide), fun T s9 hTc hS9 => ?_⟩
  refine swap_two (x := Str.ofString "above") (y := Str.ofString "masks") hr1.handled hS9 (hS9.own' (.head _)) fun s12 hS12 => ?_
  refine wpAny_execs_cons ?_
  have hS12 : S w _ G Z _ _ s12 := hS12
  have hS13 := hS12.sub (l' := [(M, mo), (Ab, W.listOf [Value.int 1 u2, .int 2 u3, .int 12 u4, .int 8 u5, .int 17 u6].toArray 0)]) (.refl _) (.cons _ (.refl _))
  refine md_roots (by kernel_rfl) (hr1.le (by omega)) rfl hS13 fun D ys Z1 n s14 hDc hov hle1 hS14 => ?_
  refine wpAny_execs_cons ?_
  have hS15 := hS14.perm (l' := [(D, W.listOf ys.toArray n), (Ab, W.listOf [Value.int 1 u2, .int 2 u3, .int 12 u4, .int 8 u5, .int 17 u6].toArray 0), (M, mo)]) ((List.Perm.swap _ _ _).cons _)
  refine md_for (one := one) (two := two) (all := [head, one, two]) (f := fun y => if y = two then 1 else if y = one then 8 else 31) (above := [1, 2, 12, 8, 17]) (by kernel_rfl) (hr1.le (by omega)) rfl hS15 (by walk_at "lk") (by walk_at "lk") put (by walk_at "lk") (by walk_at "lk") (.cons 1 _ (.cons 2 _ (.cons 12 _ (.cons 8 _ (.cons 17 _ .nil))))) (by rw [rootsOf_len]; decide) (.tail _ (.head _)) (.tail _ (.tail _ (.head _))) ?_ hov (by show 3 ≤ 5; decide) hd fun Z2 m2 avs an mo2 s16 hle2 hav hd2 hma hmm hS16 => ?_
  · intro p hp x hx
    unfold rootsOf at hp
    obtain ⟨u, _, hp⟩ := List.mem_flatMap.mp hp
    obtain ⟨v, _, hp⟩ := List.mem_flatMap.mp hp
    obtain ⟨y, _, rfl⟩ := List.mem_map.mp hp
    cases hx
  refine wpAny_execs_cons (wpAny_Return_some ?_)
  with_reducible refine mk_tuple ?_
  with_reducible refine args_cons ?_
  with_reducible refine ld hS16 hma ?_
  with_reducible refine args_one ?_
  with_reducible refine ld hS16 hmm ?_
  refine ⟨_, _, _, _, _, hS16, (by show 2 ≤ sizeLine; decide), fun T2 s17 hT2c hS17 => ?_⟩
  have fr : ∀ a ∈ [Ab, M], s.heap.get? a = none := by
    intro a ha
    simp only [List.mem_cons, List.not_mem_nil, or_false] at ha
    rcases ha with rfl | rfl
    · exact hAb
    · exact hMc
  have hz1 := hS17.zo T2 (List.mem_append_right _ (.head _))
  have hS18 := hS17.freeze hT2c
  have hz2 := hS18.zo Ab (List.mem_append_right _ (.head _))
  have hS19 := hS18.freeze (fr Ab (.head _))
  have hz3 := hS19.zo M (List.mem_append_right _ (.head _))
  have hS20 := hS19.freeze (fr M (.tail _ (.head _)))
  have g2 := Zone.put_le (W.listOf avs.toArray an) hz2
  have g3 := Zone.put_le mo2 hz3
  exact k T2 Ab M avs an mo2 s17 _ hS20.toZ0 (g3 _ _ (g2 _ _ Zone.put_self)) (g3 _ _ Zone.put_self) hav Zone.put_self hd2
end
noncomputable def freedO : Obj := { cls := .none, data := .freed }
noncomputable def onlyC (h : Heap) (p : Addr → Bool) (a : Addr) : Obj := bif p a then (h.get? a).getD freedO else freedO
/-- a heap with only some of its objects -/
noncomputable def onlyH (h : Heap) (p : Addr → Bool) : Heap := { objs := (Array.range h.objs.size).map (onlyC h p) }
theorem get?_mk {objs : Array Obj} {a : Addr} {o : Obj} (life : Life) : ({ objs := objs, life := life } : Heap).get? a = some o ↔ objs[a]? = some o ∧ o.data ≠ .freed := by
  unfold Heap.get?
  dsimp only
  cases q : objs[a]? with
  | none => simp
  | some o' =>
    obtain ⟨c, d, dt, sl⟩ := o'
    cases dt <;> simp
    all_goals first
      | (intro e; subst e; exact fun q => nomatch q)
      | (intro e; subst e; rfl)
theorem onlyH_get {h : Heap} {p : Addr → Bool} {b : Addr} {o : Obj} (e : (onlyH h p).get? b = some o) : p b = true ∧ h.get? b = some o := by
  obtain ⟨e1, e2⟩ := (get?_mk _).mp e
  rw [Array.getElem?_map, Array.getElem?_range] at e1
  by_cases hb : b < h.objs.size
  · rw [if_pos hb] at e1
    injection e1 with e1
    unfold onlyC at e1
    cases hp : p b with
    | false => rw [hp] at e1; exact absurd (by rw [← e1]; rfl) e2
    | true =>
      rw [hp] at e1
      cases q : h.get? b with
      | none => rw [q] at e1; exact absurd (by rw [← e1]; rfl) e2
      | some o' => rw [q] at e1; exact ⟨rfl, by rw [← e1]; rfl⟩
  · rw [if_neg hb] at e1; cases e1
section
variable {w : World} {c : Ctx0} {G : Array GenState} {Z : Zone} {ns : List (Addr × (Str → Option Value))} {l : List (Addr × Obj)} {s : Shared} {A : Around} {E : Value → Shared → Prop}
/-- what must stay as it is -/
noncomputable def Held (c : Ctx0) (Z : Zone) (l : List (Addr × Obj)) (b : Addr) : Prop := Z b ≠ none ∨ c.sc.heap.get? b ≠ none ∨ b ∈ l.map (·.1)
noncomputable def heldB (c : Ctx0) (Z : Zone) (l : List (Addr × Obj)) (b : Addr) : Bool := @decide (Held c Z l b) (Classical.propDecidable _)
theorem heldB_to {c : Ctx0} {Z : Zone} {l : List (Addr × Obj)} {b : Addr} (h : heldB c Z l b = true) : Held c Z l b := @of_decide_eq_true _ (Classical.propDecidable _) h
theorem S.held_ns (h : S w c G Z ns l s) (hT : c.T = []) : ∀ a ∈ ns.map (·.1), ¬ Held c Z l a := by
  intro a ha q
  rcases q with q | q | q
  · exact q (h.zo a (List.mem_append_left _ ha))
  · rcases h.lo a (List.mem_append_left _ ha) with z | z
    · exact q z
    · rw [hT] at z; cases z
  · exact (List.nodup_append.mp h.nd).2.2 a ha a q rfl
/-- slots of frames were turned, things were made -/
theorem S.slots (h : S w c G Z ns l s) (hT : c.T = []) {h' : Heap} {tk : Nat} (hb : ∀ b o, Held c Z l b → s.heap.get? b = some o → h'.get? b = some o) (hn : ∀ p ∈ ns, h'.Ns p.1 p.2) : S w c G Z ns l { s with heap := h', toks := tk } :=
  ⟨⟨h.base, h.zb, fun b o e => hb b o (.inl (by rw [e]; exact fun q => nomatch q)) (h.z b o e), h.zle, h.zf, fun b o q e => hb b o (.inr (.inl (by rw [e]; exact fun q => nomatch q))) (h.keep b o q e), fun a ha => (by rw [hT] at ha; cases ha), h.os, h.gens, h.bare⟩,
    hn, fun p hp => hb _ _ (.inr (.inr (List.mem_map_of_mem (f := (·.1)) hp))) (h.own p hp), h.zo, h.nd, h.lo⟩
theorem S.funFrames (h : S w c G Z ns l s) (hT : c.T = []) {fs : List Env} (hf : ∀ e ∈ fs, e.scope.kind ≠ .module ∧ ∃ L ∈ ns.map (·.1), e.frame = some L) (l' : List (Addr × Obj)) (hl : ∀ a ∈ l'.map (·.1), a ∈ l.map (·.1)) : s.heap.FunFrames (onlyH s.heap (heldB c Z l')) fs := by
  induction fs with
  | nil => trivial
  | cons e fs ih =>
    obtain ⟨hk, L, hL, hfr⟩ := hf e (.head _)
    obtain ⟨p, hp, rfl⟩ := List.mem_map.mp hL
    obtain ⟨o, _, _, ho, hd, _⟩ := h.nss p hp
    refine ⟨hk, ⟨p.1, o, hfr, ?_, ho, fun vs q => by rw [hd] at q; cases q⟩, ih fun e he => hf e (.tail _ he)⟩
    cases q : (onlyH s.heap (heldB c Z l')).get? p.1 with
    | none => rfl
    | some o' =>
      exfalso
      refine h.held_ns hT p.1 hL ?_
      rcases heldB_to (onlyH_get q).1 with z | z | z
      · exact .inl z
      · exact .inr (.inl z)
      · exact .inr (.inr (hl _ z))
theorem S.slotsOnly {fr : List Addr} (h : S w c G Z ns l s) (hT : c.T = []) {h' : Heap} (hs : Heap.SlotsOnly fr s.heap h') (hf : ∀ a ∈ fr, a ∈ ns.map (·.1)) : S w c G Z ns l { s with heap := h' } := by
  refine h.slots hT (fun b o hb e => (hs.2.1 b fun q => h.held_ns hT b (hf b q) hb).trans e) fun p hp => ?_
  have up : s.heap.UpToSlots h' := fun b o e _ => hs.2.2 b o e
  exact up.ns (h.nss p hp)
noncomputable abbrev excO (cls : Value) (t : Addr) (v : Value) : Obj := { cls := cls, data := .fields #[.ref t, v, .none, .none, .bool false, .none] }
noncomputable def FrOk (fs : List Env) (ns : List (Addr × (Str → Option Value))) : Prop := ∀ e ∈ fs, e.scope.kind ≠ .module ∧ ∃ L ∈ ns.map (·.1), e.frame = some L
/-- a new entry of the error's way is written -/
theorem entry_step {env : Env} {outer : List Env} {L e t : Addr} {cls head v1 : Value} {hn : Bool} {Q : Unit → Shared → Prop} (hT : c.T = []) (hfr : A.frames = some (env :: outer)) (hfn : FrOk (env :: outer) ns) (hf : env.frame = some L) (hS : S w c G Z ns ((e, excO cls t v1) :: l) s)
    (k : ∀ T tbo ts s', tbo.data = .fields ts → 3 < ts.size → ts[3]? = some (rawInt L) → S w c G Z ns ((e, excO cls t (.ref T)) :: (T, tbo) :: l) s' → Q () s') :
    wpAny (model PG w) A (do let a ← frameOf env; let pl ← entryPlaceOf L hn; let b ← EntryCells.newEntry head a .none (rawInt L) .none pl; setField (.ref e) 1 b) Q E s := by
  have hff := hS.funFrames (fs := env :: outer) hT hfn _ (fun _ h => h)
  refine wpAny_bind (wpAny_frameOf_fun hfr hff hf fun h₁ hs₁ => ?_)
  have hS1 : S w c G Z ns ((e, excO cls t v1) :: l) { s with heap := h₁ } := hS.slotsOnly hT hs₁ fun a ha => by
    obtain ⟨e', he', q⟩ := List.mem_filterMap.mp ha
    obtain ⟨_, L', hL', q'⟩ := hfn e' he'
    rw [q'] at q; injection q with q; exact q ▸ hL'
  refine wpAny_bind (wpAny_entryPlaceOf fun pl hpl => ?_)
  unfold EntryCells.newEntry newFields
  refine wpAny_bind (wpAny_newObj_type ?_ (hpl.sizeOk5 _ _ _ _ _))
  have hS2 := hS1.push { cls := .type "traceback", data := .fields ([head, .ref L, .none, rawInt L, .none] ++ (if pl.isEmpty then List.replicate 6 Value.none else pl)).toArray } rfl
  have hS3 := hS2.upd (l' := (h₁.objs.size, { cls := .type "traceback", data := .fields ([head, .ref L, .none, rawInt L, .none] ++ (if pl.isEmpty then List.replicate 6 Value.none else pl)).toArray }) :: (e, excO cls t (.ref h₁.objs.size)) :: l) (.tail .head) (f := Obj.mapFields (·.setIfInBounds 1 (Value.ref h₁.objs.size))) rfl rfl
  refine wpAny_setField (hS2.own' (.tail _ (.head _))) rfl (by simp) ?_
  exact k _ _ _ _ rfl (by simp only [List.size_toArray, List.length_append, List.length_cons, List.length_nil]; omega) (by simp) (hS3.perm (List.Perm.swap _ _ _))
/-- the flight ends for now -/
theorem flight_step {e t T : Addr} {cls : Value} {tbo : Obj} {ts : Array Value} {Q : Unit → Shared → Prop} (hS : S w c G Z ns ((e, excO cls t (.ref T)) :: (T, tbo) :: l) s) (hd : tbo.data = .fields ts) (hz : 3 < ts.size)
    (k : ∀ tbo' ts' s', tbo'.data = .fields ts' → 3 < ts'.size → ts'[3]? = some .none → S w c G Z ns ((e, excO cls t (.ref T)) :: (T, tbo') :: l) s' → Q () s') : wpAny (model PG w) A (setFlight (.ref e) none) Q E s := by
  unfold setFlight
  refine wpAny_bind (wpAny_field (hS.own' (.head _)) rfl (x := .ref T) rfl ?_)
  rw [if_pos (show (Value.ref T != Value.none) = true from by simp)]
  refine wpAny_setField (hS.own' (.tail _ (.head _))) hd hz ?_
  have hf : (Obj.mapFields (·.setIfInBounds 3 ((none : Option Addr).elim Value.none fun f => rawInt f)) tbo).isFreed = false := Obj.isFreed_of_fields (Obj.data_mapFields hd _)
  have hS1 := hS.upd (l' := (e, excO cls t (.ref T)) :: (T, Obj.mapFields (·.setIfInBounds 3 ((none : Option Addr).elim Value.none fun f => rawInt f)) tbo) :: l) (.tail .head) (f := Obj.mapFields (·.setIfInBounds 3 ((none : Option Addr).elim Value.none fun f => rawInt f))) rfl hf
  exact k _ _ _ (Obj.data_mapFields hd _) (by simpa using hz) (by simp [hz]) hS1
/-- an error is on its way -/
noncomputable def FlyS (w : World) (c : Ctx0) (G : Array GenState) (Z : Zone) (ns : List (Addr × (Str → Option Value))) (l : List (Addr × Obj)) (e : Addr) (cls : Value) (args : List Value) (s : Shared) : Prop :=
  ∃ t T tbo ts, tbo.data = .fields ts ∧ 3 < ts.size ∧ ts[3]? = some .none ∧ S w c G Z ns ((e, excO cls t (.ref T)) :: (T, tbo) :: (t, tupObj args) :: l) s
/-- noteFrame for an error on its way -/
theorem FlyS.note {env : Env} {outer : List Env} {L e : Addr} {cls : Value} {args : List Value} {Q : Unit → Shared → Prop} (hT : c.T = []) (hfr : A.frames = some (env :: outer)) (hfn : FrOk (env :: outer) ns) (hf : env.frame = some L) (h : FlyS w c G Z ns l e cls args s)
    (k : ∀ t T tbo ts s', tbo.data = .fields ts → 3 < ts.size → ts[3]? = some (rawInt L) → S w c G Z ns ((e, excO cls t (.ref T)) :: (T, tbo) :: (t, tupObj args) :: l) s' → Q () s') : wpAny (model PG w) A (noteFrame (.ref e) env) Q E s := by
  obtain ⟨t, T, tbo, ts, hd, hz, h3, hS⟩ := h
  unfold noteFrame
  simp only [hf]
  refine wpAny_bind (wpAny_field (hS.own' (.head _)) rfl (x := .ref T) rfl ?_)
  rw [if_pos (show (Value.ref T != Value.none) = true from by simp)]
  refine wpAny_bind (wpAny_field (hS.own' (.tail _ (.head _))) hd h3 ?_)
  rw [if_neg (show ¬ ((Value.none == rawInt L) = true) from by simp [rawInt])]
  refine wpAny_bind (wpAny_setField (hS.own' (.tail _ (.head _))) hd hz ?_)
  have hf' : (Obj.mapFields (·.setIfInBounds 3 Value.none) tbo).isFreed = false := Obj.isFreed_of_fields (Obj.data_mapFields hd _)
  have hS1 := hS.upd (l' := (e, excO cls t (.ref T)) :: (T, Obj.mapFields (·.setIfInBounds 3 Value.none) tbo) :: (t, tupObj args) :: l) (.tail .head) (f := Obj.mapFields (·.setIfInBounds 3 Value.none)) rfl hf'
  refine entry_step hT hfr hfn hf hS1 fun T2 tbo2 ts2 s2 hd2 hz2 h32 hS2 => ?_
  exact k t T2 tbo2 ts2 s2 hd2 hz2 h32 (hS2.sub (.refl _) (.cons_cons _ (.cons_cons _ (.cons _ (.refl _)))))
theorem FlyS.leave {env : Env} {outer : List Env} {p : Addr × (Str → Option Value)} {e : Addr} {cls : Value} {args : List Value} {Q : Unit → Shared → Prop} (hT : c.T = []) (hfr : A.frames = some (env :: outer)) (hfn : FrOk (env :: outer) (p :: ns)) (hf : env.frame = some p.1) (h : FlyS w c G Z (p :: ns) l e cls args s)
    (hQ : ∀ s', FlyS w c G Z ns l e cls args s' → Q () s') : wpAny (model PG w) A (leaving env (.ref e)) Q E s := by
  unfold leaving
  refine wpAny_bind (h.note hT hfr hfn hf fun t T tbo ts s2 hd hz h3 hS2 => ?_)
  refine flight_step hS2 hd hz fun tbo' ts' s3 hd' hz' h3' hS3 => ?_
  exact hQ s3 ⟨t, T, tbo', ts', hd', hz', h3', hS3.sub (.cons _ (.refl _)) (.refl _)⟩
theorem FlyS.sub {e : Addr} {cls : Value} {args : List Value} {l' : List (Addr × Obj)} (h : FlyS w c G Z ns l e cls args s) (hl : l'.Sublist l) : FlyS w c G Z ns l' e cls args s := by
  obtain ⟨t, T, tbo, ts, hd, hz, h3, hS⟩ := h
  exact ⟨t, T, tbo, ts, hd, hz, h3, hS.sub (.refl _) (.cons_cons _ (.cons_cons _ (.cons_cons _ hl)))⟩
/-- an error just made leaves the frame it was made in -/
theorem leave_made {env : Env} {outer : List Env} {p : Addr × (Str → Option Value)} {e : Addr} {cls : String} {args : List Value} {h' : Heap} {Q : Unit → Shared → Prop} (hT : c.T = []) (hS : S w c G Z (p :: ns) l s) (hfr : A.frames = some (env :: outer)) (hfn : FrOk (env :: outer) (p :: ns)) (hf : env.frame = some p.1)
    (hm : Heap.MadeExc s.heap h' e cls args)
    (hQ : ∀ s', FlyS w c G Z ns l e (.type cls) args s' → Q () s') : wpAny (model PG w) A (leaving env (.ref e)) Q E { s with heap := h' } := by
  obtain ⟨t, he, htn, ht⟩ := hm.there
  have het : e ≠ t := fun q => by
    rw [q] at he; rw [he] at ht; injection ht with ht
    have := congrArg Obj.data ht
    cases this
  have hS1 : S w c G Z (p :: ns) ((e, excO (.type cls) t .none) :: (t, tupObj args) :: l) { s with heap := h' } := by
    have hnd := (List.nodup_append.mp hS.nd).2.1
    have al : ∀ a ∈ l.map (·.1), ∃ o, s.heap.get? a = some o := fun a ha => hS.alive a (List.mem_append_right _ ha)
    have := hS.chg (h' := h') (l' := (e, excO (.type cls) t .none) :: (t, tupObj args) :: l) [] s.toks (fun _ q => nomatch q) (fun b o _ q => hm.keeps b o q) ?_ ?_ ?_ (fun _ q => nomatch q)
    · exact this
    · intro q hq
      rcases List.mem_cons.mp hq with rfl | hq
      · exact he
      · rcases List.mem_cons.mp hq with rfl | hq
        · exact ht
        · exact hm.keeps _ _ (hS.own q hq)
    · intro q hq
      rcases List.mem_cons.mp hq with rfl | hq
      · exact .inr hm.new
      · rcases List.mem_cons.mp hq with rfl | hq
        · exact .inr htn
        · exact .inl (List.mem_map_of_mem (f := (·.1)) hq)
    · rw [List.map_cons, List.map_cons, List.nodup_cons, List.nodup_cons]
      refine ⟨fun q => ?_, fun q => ?_, hnd⟩
      · rcases List.mem_cons.mp q with q | q
        · exact het q
        · obtain ⟨o, ho⟩ := al _ q
          have ho : s.heap.get? e = some o := ho
          rw [hm.new] at ho; cases ho
      · obtain ⟨o, ho⟩ := al _ q
        have ho : s.heap.get? t = some o := ho
        rw [htn] at ho; cases ho
  unfold leaving noteFrame
  simp only [hf]
  refine wpAny_bind (wpAny_bind (wpAny_field (hS1.own' (.head _)) rfl (x := .none) rfl ?_))
  rw [if_neg (by decide)]
  refine entry_step hT hfr hfn hf hS1 fun T tbo ts s2 hd hz h3 hS2 => ?_
  refine flight_step hS2 hd hz fun tbo' ts' s3 hd' hz' h3' hS3 => ?_
  exact hQ s3 ⟨t, T, tbo', ts', hd', hz', h3', hS3.sub (.cons _ (.refl _)) (.refl _)⟩
end
end Mine
end
noncomputable section
open PySem PySem.W PyProof.Rows PySem.Calls PySem.Spec
open PySem.Builtin PySem.Builtin.Str PySem.StrLaws PySem.SeqAt PySem.Builtin.Re
set_option Elab.async false
set_option maxRecDepth 100000
set_option linter.unusedVariables false
set_option maxHeartbeats 4000000
namespace Mine
local macro_rules | `(tactic| walk_at "lk") => `(tactic| first | with_reducible exact put | with_reducible assumption | ((with_reducible refine' got ?h9 ?n9); (case n9 => decide); (case h9 => walk_at "lk")) | exact rfl)
/-- the pattern at a finds something in x -/
noncomputable def foundB (P : Params) (a : Addr) (x : Str) (t : Tok) : Bool := match W.peek (kf P) ⟨PG, P⟩ (reTarget "re.Pattern.search" "search" ⟨[.ref a, .str x t], []⟩) with
  | some tm => tm.groups == 0 && (match W.peek (kf P) ⟨PG, P⟩ (reRunToEnd (Sre.forSearch tm.code tm.text tm.groups tm.pos tm.lim false)) with
    | some (some _) => true
    | _ => false)
  | none => false
noncomputable def Finds1 (w : World) (a : Addr) (x : Str) : Prop := ∀ t, foundB w.params a x t = true
theorem nb_match : typeLookup (.type "re.Match") "__bool__" = pure none := by rw [typeLookup_type, builtinLookup_eq_fast]; kernel_rfl
theorem nl_match : typeLookup (.type "re.Match") "__len__" = pure none := by rw [typeLookup_type, builtinLookup_eq_fast]; kernel_rfl
section
variable {w : World} {c : Ctx0} {G : Array GenState} {Z : Zone} {ns : List (Addr × (Str → Option Value))} {l : List (Addr × Obj)} {s : Shared} {A : Around} {E : Value → Shared → Prop}
theorem truthy_match {a : Addr} {Q : Bool → Shared → Prop} (hT : s.TypeIs (.ref a) "re.Match") (h : Q true s) : wpAny (model PG w) A (truthy (.ref a)) Q E s := by
  unfold truthy
  first
    | refine wpAny_bind (wpAny_callSpecial?_none (name := Str.ofString "__bool__") hT nb_match ?_)
    | refine wpAny_bind (wpAny_pure (wpAny_bind (wpAny_callSpecial?_none (name := Str.ofString "__bool__") hT nb_match ?_)))
  first
    | refine wpAny_bind (wpAny_specialOf (name := Str.ofString "__len__") hT nl_match ?_)
    | refine wpAny_bind (wpAny_pure (wpAny_bind (wpAny_specialOf (name := Str.ofString "__len__") hT nl_match ?_)))
  exact wpAny_pure h
theorem search_found {a : Addr} {x : Str} {t : Tok} {Q : Value → Shared → Prop} (h : S w c G Z ns l s) (hT : s.TypeIs (.ref a) "re.Pattern") (hf : Finds1 w a x)
    (k : ∀ M mo s', mo.cls = .type "re.Match" → S w c G Z ns ((M, mo) :: l) s' → Q (.ref M) s') : wpAny (model PG w) A (call (.builtin "re.Pattern.search") [.ref a, .str x t]) Q E s := by
  have hf := hf t
  unfold foundB at hf
  cases h1 : W.peek (kf w.params) ⟨PG, w.params⟩ (reTarget "re.Pattern.search" "search" ⟨[.ref a, .str x t], []⟩) with
  | none => rw [h1] at hf; cases hf
  | some tm =>
    rw [h1] at hf
    dsimp only at hf
    rw [Bool.and_eq_true, beq_iff_eq] at hf
    obtain ⟨hg, hf⟩ := hf
    cases h2 : W.peek (kf w.params) ⟨PG, w.params⟩ (reRunToEnd (Sre.forSearch tm.code tm.text tm.groups tm.pos tm.lim false)) with
    | none => rw [h2] at hf; cases hf
    | some om =>
      cases om with
      | none => rw [h2] at hf; cases hf
      | some m =>
        refine wpAny_call_entry slot_re_search hT entry_re_search ?_ (args_re_search _ _)
        unfold Builtin.«re.Pattern.search»
        refine wpAny_bind ((W.Looks.of_peek h.kin h1).here ?_)
        unfold reAnswer
        refine wpAny_bind ((W.Looks.of_peek h.kin h2).here ?_)
        dsimp only
        refine wpAny_bind ?_
        unfold reNewMatch
        rw [hg]
        simp only [List.range_zero, List.flatMap_nil, List.any_nil, Bool.false_eq_true, if_false]
        refine wpAny_bind ?_
        unfold newTuple
        refine wpAny_newObj_type ?_ (by show 2 ≤ sizeLine; decide)
        have hS1 := h.push { cls := .type "tuple", data := .seq [rawInt m.start, rawInt m.handed].toArray } rfl
        unfold newFields
        refine wpAny_newObj_type ?_ (by simp [sizeOk, sizeLine_eq])
        have hS2 := hS1.push { cls := .type "re.Match", data := .fields [tm.string, tm.pattern, rawInt tm.pos, rawInt tm.lim, rawInt m.lastindex, .ref s.heap.objs.size].toArray } rfl
        refine wpAny_pure ⟨_, rfl, ?_⟩
        exact k _ _ _ rfl (hS2.sub (.refl _) (.cons_cons _ (.cons _ (.refl _))))
end
noncomputable def ctlMsg : Str := "Control characters not allowed in headers"
section
variable {w : World} {c : Ctx0} {G : Array GenState} {Z : Zone} {ns : List (Addr × (Str → Option Value))} {l : List (Addr × Obj)} {s : Shared} {A : Around} {E : Value → Shared → Prop}
/-- _convert_string_type of a name in which a control sign is found -/
theorem conv_raise {x : Addr} {v : Str} {t : Tok} {fs : List Env} {Q : Value → Shared → Prop} (hr : Rm A 20) (hT : c.T = []) (h : S w c G Z ns l s) (hfs : A.frames = some fs) (hfn : FrOk fs ns) (hv : Finds1 w 48 v)
    (k : ∀ e tm s', FlyS w c G Z ns l e (.type "ValueError") [.str ctlMsg tm] s' → E (.ref e) s') : wpAny (model PG w) A (call (.ref 83) [.ref x, .str v t] [(Str.ofString "name", .bool true)]) Q E s := by
  have h1 : (KF w).lookup 83 = some (obAt w.params 83) := by kernel_rfl
  have h2 : (obAt w.params 83).data = .func (fdAt w.params 83) := by kernel_rfl
  have h3 : codeIn (KF w) (fdAt w.params 83).code (fdAt w.params 83).qualname = true := by kernel_rfl
  have h4 : (fdAt w.params 83).body = .stmts (bodyAt w.params 83) := by kernel_rfl
  have h5 : bindArgs (fdAt w.params 83) ⟨[.ref x, .str v t], [(Str.ofString "name", .bool true)]⟩ = pure [(Str.ofString "self", .ref x), (Str.ofString "value", .str v t), (Str.ofString "name", .bool true)] := by kernel_rfl
  refine wpAny_call ?_
  with_reducible refine enterI (fun y => if y = Str.ofString "name" then some (.bool true) else (fun y => if y = Str.ofString "value" then some (.str v t) else (fun y => if y = Str.ofString "self" then some (.ref x) else none) y) y) (fun _ => []) hr h.kin h h1 h2 h3 h4 (bind_pure h5) (by kernel_rfl) (by kernel_rfl) ?_
  intro L s₁ hs hLc hr'
  have hs : S w c G Z _ l s₁ := hs
  refine wpAny_execs_cons ?_
  with_reducible refine wpAny_If ?_
  with_reducible refine wpAny_isTrue_Compare1 ?_ (by kernel_rfl)
  with_reducible refine callT (T := "type") ?_
  with_reducible refine is_ldb hs.toZ0 (by kernel_rfl) (by kernel_rfl) ?_
  with_reducible refine args_one ?_
  refine ld hs (v := .str v t) (by walk_at "lk") ?_
  refine call_type_of (typeIs_str _ _ _) (by decide) ?_
  refine ldb hs.toZ0 (v := .type "str") (by kernel_rfl) (by kernel_rfl) (is_str (wpAny_truthy_bool ?_))
  refine wpAny_execs_cons (wpAny_Assign_Name ?_)
  with_reducible refine wpAny_IfExp ?_
  with_reducible refine isTrue_plain ?_ (by kernel_rfl)
  refine ld hs (v := .bool true) (by walk_at "lk") (wpAny_truthy_bool ?_)
  refine ldg hs.toZ0 (v := .ref 48) (by kernel_rfl) ?_
  refine st hs fun s3 hS3 => ?_
  refine wpAny_execs_cons ?_
  with_reducible refine wpAny_If ?_
  with_reducible refine isTrue_plain ?_ (by kernel_rfl)
  with_reducible refine callO pa_re slot_re_search type_re_search ?_
  refine ld hS3 (v := .ref 48) (by walk_at "lk") ?_
  have hob : ∃ ob, s3.heap.get? 48 = some ob ∧ ob.cls = .type "re.Pattern" ∧ ob.dict = none := ⟨_, hS3.kin 48 (obAt w.params 48) (by kernel_rfl), by kernel_rfl, by kernel_rfl⟩
  obtain ⟨ob, hob, hcls, hdict⟩ := hob
  have hTy : s3.TypeIs (.ref 48) "re.Pattern" := ⟨ob, hob, hcls⟩
  refine ⟨hTy, fun a e => ⟨ob, by cases e; exact hob, hdict⟩, ld hS3 (v := .str v t) (by walk_at "lk") ?_⟩
  refine search_found hS3 hTy hv fun M mo s4 hmo hS4 => ?_
  refine truthy_match ⟨mo, hS4.own' (.head _), hmo⟩ ?_
  refine wpAny_execs_cons ?_
  refine Raise_madeB F.excCall_ValueError F.excRaise_ValueError hr'.handled ?_ (by kernel_rfl) (by kernel_rfl)
  refine ldb hS4.toZ0 (v := .type "ValueError") (by kernel_rfl) (by kernel_rfl) ⟨rfl, ?_⟩
  with_reducible refine args_one ?_
  with_reducible refine con_str hS4 fun tm s5 hS5 => ?_
  refine ⟨by show 1 ≤ sizeLine; decide, fun h' e hm => ?_⟩
  have hS6 := hS5.sub (l' := l) (List.Sublist.refl _) (.cons _ (.refl _))
  refine leave_made (p := (_, _)) (outer := fs) hT hS6 (by show Option.map _ A.frames = _; rw [hfs]; rfl) (fun e' he' => ?_) rfl hm fun s7 hfly => ?_
  · rcases List.mem_cons.mp he' with rfl | he'
    · exact ⟨by show ScopeKind.function ≠ _; decide, _, .head _, rfl⟩
    · obtain ⟨q1, L', hL', q2⟩ := hfn e' he'
      exact ⟨q1, L', .tail _ hL', q2⟩
  exact k e tm s7 hfly
end
section
variable {w : World} {c : Ctx0} {G : Array GenState} {Z : Zone} {ns : List (Addr × (Str → Option Value))} {l : List (Addr × Obj)} {s : Shared} {A : Around} {E : Value → Shared → Prop}
/-- get_all(name), a control sign in the name -/
theorem get_all_raise {x dx hl : Addr} {tk : Tok} {nm : Str} {tn : Tok} {fs : List Env} {Q : Value → Shared → Prop} (hr : Rm A 40) (hT : c.T = []) (h : S w c G Z ns l s) (hfs : A.frames = some fs) (hfn : FrOk fs ns)
    (hx' : (x, hdI dx) ∈ l) (hd' : (dx, hdD w tk hl) ∈ l) (hf : Finds1 w 48 (Txt.lower nm)) (hfit : tooLong (Txt.lower nm).length = false)
    (k : ∀ e tm s', FlyS w c G Z ns l e (.type "ValueError") [.str ctlMsg tm] s' → E (.ref e) s') : wpAny (model PG w) A (call (.ref 121) [.ref x, .str nm tn]) Q E s := by
  have h1 : (KF w).lookup 121 = some (obAt w.params 121) := by kernel_rfl
  have h2 : (obAt w.params 121).data = .func (fdAt w.params 121) := by kernel_rfl
  have h3 : codeIn (KF w) (fdAt w.params 121).code (fdAt w.params 121).qualname = true := by kernel_rfl
  have h4 : (fdAt w.params 121).body = .stmts (bodyAt w.params 121) := by kernel_rfl
  have h5 : bindArgs (fdAt w.params 121) ⟨[.ref x, .str nm tn], []⟩ = pure [(Str.ofString "self", .ref x), (Str.ofString "name", .str nm tn)] := by kernel_rfl
  refine wpAny_call ?_
  with_reducible refine enterI (fun y => if y = Str.ofString "self" then some (.ref x) else none) (fun L => [(L + 1, cellO (some (.str nm tn)))]) hr h.kin h h1 h2 h3 h4 (bind_pure h5) (by kernel_rfl) (by kernel_rfl) ?_
  intro L s2 hS2 hLc hr2
  have hS2 : S w c G Z _ ((L + 1, cellO (some (.str nm tn))) :: l) s2 := hS2
  refine wpAny_execs_cons (wpAny_Assign_Name ?_)
  with_reducible refine callM (f := 83) ?_
  refine ld hS2 (v := .ref x) (by walk_at "lk") ⟨x, dx, hl, tk, rfl, hS2.kin, hS2.own' (.tail _ hx'), hS2.own' (.tail _ hd'), ?_⟩
  with_reducible refine argsMK (by kernel_rfl) ?_
  with_reducible refine callS0 F.slot_str_lower F.type_str_lower ?_
  refine ldc hS2 (a := L + 1) (v := .str nm tn) (.head _) ⟨nm, tn, rfl, SC.lower hfit ?_⟩
  have hS3 := hS2.toks (s2.toks + 1)
  refine con_bool ⟨hS3.kin, ?_⟩
  have hfr : (A.deeper (gaEnv w L)).frames = some (gaEnv w L :: fs) := by show Option.map _ A.frames = _; rw [hfs]; rfl
  have hfn2 : FrOk (gaEnv w L :: fs) (((gaEnv w L).locals, fun y => if y = Str.ofString "self" then some (.ref x) else none) :: ns) := by
    intro e he
    rcases List.mem_cons.mp he with rfl | he
    · exact ⟨by show ScopeKind.function ≠ _; decide, _, .head _, rfl⟩
    · obtain ⟨q1, L', hL', q2⟩ := hfn e he
      exact ⟨q1, L', .tail _ hL', q2⟩
  refine conv_raise (fs := gaEnv w L :: fs) (hr2.le (by omega)) hT hS3 hfr hfn2 hf fun e tm s4 hfly => ?_
  refine hfly.leave hT hfr hfn2 rfl fun s5 hfly5 => ?_
  exact k e tm s5 (hfly5.sub (.cons _ (.refl _)))
end
end Mine
end
noncomputable section
open PySem PySem.W PyProof.Rows PySem.Calls PySem.Spec
open PySem.Builtin PySem.Builtin.Str PySem.StrLaws PySem.SeqAt
set_option Elab.async false
set_option maxRecDepth 100000
set_option linter.unusedVariables false
set_option maxHeartbeats 4000000
namespace Mine
/-- the units a generator gave -/
inductive UnitsAt (Z : Zone) : List Value → List (Nat × List Nat) → Prop
  | nil : UnitsAt Z [] []
  | cons {b : Addr} {u : Nat × List Nat} {t t' : Tok} {vs us} : Z b = some (unitObj u t t') → UnitsAt Z vs us → UnitsAt Z (.ref b :: vs) (u :: us)
theorem UnitsAt.mono {Z Z' : Zone} (h : Z.le Z') {vs us} (x : UnitsAt Z vs us) : UnitsAt Z' vs us := by
  induction x with
  | nil => exact .nil
  | cons a _ ih => exact .cons (h _ _ a) ih
theorem UnitsAt.length {Z : Zone} {vs us} (x : UnitsAt Z vs us) : vs.length = us.length := by
  induction x with
  | nil => rfl
  | cons _ _ ih => simp [ih]
theorem UnitsAt.at {Z : Zone} {vs us} (x : UnitsAt Z vs us) : ∀ {i : Nat} {v : Value}, vs[i]? = some v → ∃ b u t t', v = .ref b ∧ us[i]? = some u ∧ Z b = some (unitObj u t t') := by
  induction x with
  | nil => intro i v h; simp at h
  | cons a _ ih =>
    intro i v h
    cases i with
    | zero => simp at h; subst h; exact ⟨_, _, _, _, rfl, rfl, a⟩
    | succ i => simp at h; exact ih h
section
variable {w : World} {c : Ctx0} {G : Array GenState} {Z : Zone} {r : List (Addr × (Str → Option Value))} {l : List (Addr × Obj)} {s : Shared} {A : Around} {E : Value → Shared → Prop} {p : Addr × (Str → Option Value)}
theorem iter_callA {x : Str} {t : Tok} {Q : Value → Shared → Prop} (hr : Rm A 3) (h : S w c G Z (p :: r) l s)
    (k : ∀ a L m' G' g nm qn s', S w c G' Z (p :: (L, m') :: r) ((a, genObj g nm qn) :: l) s' → (∀ A' : Around, GenIs w A' c.H G' g L x (unitsFrom 0 false x.cps.toList) m' []) → c.sc.heap.get? a = none → Q (.ref a) s') :
    wpAny (model PG w) A (call (.ref 193) [.str x t]) Q E s := by
  have h1 : (KF w).lookup 193 = some (obAt w.params 193) := by kernel_rfl
  have h2 : (obAt w.params 193).data = .func (fdAt w.params 193) := by kernel_rfl
  have h3 : codeIn (KF w) (fdAt w.params 193).code (fdAt w.params 193).qualname = true := by kernel_rfl
  have h4 : (fdAt w.params 193).body = .stmts (bodyAt w.params 193) := by kernel_rfl
  have h5 : bindArgs (fdAt w.params 193) ⟨[.str x t], []⟩ = pure [(Str.ofString "addr", .str x t)] := by kernel_rfl
  have h6 : ((fdAt w.params 193).scope.names.all fun x => !(x.2 == .cell)) = true := by kernel_rfl
  have h7 : ([(Str.ofString "addr", Value.str x t)].all fun x => (fdAt w.params 193).scope.names.lookup x.1 == some .local) = true := by kernel_rfl
  refine wpAny_call (codeAny_call_generator hr.lt (h.kin _ _ h1) h2 (by kernel_rfl) (by kernel_rfl) h4 (codeRec_of h.kin h3) ?_)
  rw [h5]
  refine wpAny_pure (wpAny_newFunctionEnv (fun x hx q => by have := List.all_eq_true.mp h6 x hx; rw [q] at this; exact absurd this (by decide)) (fun x hx => by simpa using List.all_eq_true.mp h7 x hx) (fun h₁ hns hsb => ?_) (by kernel_rfl))
  have hk : ∀ b o, s.heap.get? b = some o → h₁.get? b = some o := fun b o e => hsb.extBut b o (Nat.ne_of_lt (Heap.lt_size e)) (Heap.get?_push_of_some _ e)
  have hS1 := h.newNs (m := fun y => [(Str.ofString "addr", Value.str x t)].reverse.lookup y) hns hk (s.toks + 1)
  refine ⟨hS1.lim, ?_⟩
  have hS2 := (hS1.push (genObj s.gens.size (.str (fdAt w.params 193).name (s.toks + 1)) (.str (fdAt w.params 193).qualname (s.toks + 1 + 1))) rfl).toks (s.toks + 1 + 1 + 1)
  have hbare : AllBare (s.gens.push (.fresh (.func (bodyAt w.params 193) (itEnv w s.heap.objs.size)))) := (show AllBare s.gens from h.gens ▸ h.bare).push rfl
  have hS3 := hS2.setG hbare
  refine k _ _ _ _ s.gens.size _ _ _ hS3 (fun A' => .inl ⟨rfl, rfl, ?_, t, rfl⟩) hS1.new
  simp
theorem extend_units {D a g : Addr} {x : Str} {nm qn : Value} {R : Result → Shared → Prop} (hx : x.cps.all (· < 128) = true) (hxl : x.length ≤ 10000) (hT : c.T = []) :
    ∀ (us : List (Nat × List Nat)) {s : Shared} {A : Around} {G : Array GenState} {Z : Zone} {L : Addr} {m : Str → Option Value} {gl : List (Addr × Obj)} {acc : List Value} {n : Nat}, Rm A 15 → acc.length + us.length ≤ 2000 →
      S w c G Z (p :: (L, m) :: r) (((D, W.listOf acc.toArray n) :: (a, genObj g nm qn) :: l) ++ gl) s → GenIs w A.in1 c.H G g L x us m gl →
      (∀ s' G' Z' vs n', Z.le Z' → UnitsAt Z' vs us → S w c G' Z' (p :: r) ((D, W.listOf (acc ++ vs).toArray n') :: (a, genObj g nm qn) :: l) s' → R (.ok (.ret .none)) s') →
      codeAny (model PG w) A (.builtin "list.extend.loop" ⟨[.ref D, .ref a, .none], []⟩) R s := by
  intro us
  induction us with
  | nil =>
    intro s A G Z L m gl acc n hr hlen hS hI k
    refine codeAny_builtin F.entry_extend_loop ?_
    rw [Around.under_plainId F.plain_extend_loop _]
    show wpAny _ A.in1 (pyNext (.ref a) >>= _) _ _ s
    refine wpAny_bind ?_
    refine gen_next hr.in1 hx hxl hS hT (.tail _ (.head _)) hI (fun _ s2 G2 hS2 => ?_) (fun u us' e => by cases e)
    refine wpAny_pure ?_
    exact k s2 G2 Z [] n (.refl Z) .nil (by rw [List.append_nil]; exact hS2)
  | cons u us ih =>
    intro s A G Z L m gl acc n hr hlen hS hI k
    refine codeAny_builtin F.entry_extend_loop ?_
    rw [Around.under_plainId F.plain_extend_loop _]
    show wpAny _ A.in1 (pyNext (.ref a) >>= _) _ _ s
    refine wpAny_bind ?_
    refine gen_next hr.in1 hx hxl hS hT (.tail _ (.head _)) hI (fun e => by cases e) (fun u' us' e b s2 G2 m2 gl2 t t' hS2 hI2 hzb hcb => ?_)
    injection e with e1 e2
    subst e1 e2
    show wpAny _ A.in1 (updateSeq D (·.push (.ref b)) >>= _) _ _ s2
    refine wpAny_bind ?_
    have hD := hS2.own' (List.Mem.head _ : (D, W.listOf acc.toArray n) ∈ _)
    have hle : Z.le (Z.put b (unitObj u t t')) := Zone.put_le _ hzb
    refine wpAny_updateSeq hD rfl (wpAny_pure ⟨plainId_quiet F.plain_extend_loop _, ?_⟩) (by rw [List.size_toArray, sizeLine_eq]; simp at hlen; omega) (by show _ ≤ sizeLine + 1; rw [sizeLine_eq]; simp at hlen ⊢; omega)
    have hS3 := hS2.upd (l' := ((D, W.listOf (acc ++ [Value.ref b]).toArray (n + 1)) :: (a, genObj g nm qn) :: l) ++ gl2) .head (f := Obj.mapSeq (·.push (.ref b))) (by simp [Obj.mapSeq]) rfl
    refine ih hr (by simp at hlen ⊢; omega) hS3 hI2 fun s' G' Z' vs n' hle' hvs hS' => ?_
    refine k s' G' Z' (.ref b :: vs) n' (hle.trans hle') (.cons (hle' _ _ Zone.put_self) hvs) ?_
    rw [List.append_assoc] at hS'
    exact hS'
/-- list(a generator) -/
theorem list_units {a g L : Addr} {m : Str → Option Value} {x : Str} {nm qn : Value} {us : List (Nat × List Nat)} {Q : Value → Shared → Prop} (hx : x.cps.all (· < 128) = true) (hxl : x.length ≤ 10000) (hT : c.T = []) (hr : Rm A 20) (hus : us.length ≤ 2000)
    (hS : S w c G Z (p :: (L, m) :: r) ((a, genObj g nm qn) :: l) s) (hI : ∀ A' : Around, GenIs w A' c.H G g L x us m [])
    (k : ∀ D s' G' Z' vs n, Z.le Z' → UnitsAt Z' vs us → S w c G' Z' (p :: r) ((D, W.listOf vs.toArray n) :: (a, genObj g nm qn) :: l) s' → Q (.ref D) s') :
    wpAny (model PG w) A (call (.type "list") [.ref a]) Q E s := by
  refine callType_codes (Q₁ := fun obj s₁ => obj = .ref s.heap.objs.size ∧ s₁ = { s with heap := s.heap.push { cls := .type "list", data := .seq #[] } }) F.called_list (F.typeCall_list_1 _) F.entry_list_init
    (code_list_new _ ⟨rfl, rfl⟩) fun obj s₁ h₁ => ?_
  obtain ⟨rfl, rfl⟩ := h₁
  have hne : s.heap.objs.size ≠ a := fun e => absurd (Heap.lt_size (hS.own' (.head _))) (by rw [e]; exact Nat.lt_irrefl _)
  have hS1 := hS.push (W.listOf ([] : List Value).toArray 0) rfl
  generalize s.heap.objs.size = D at *
  refine ⟨⟨_, hS1.own' (.head _), rfl⟩, F.args_list_init_2 _ _, ?_⟩
  show wpAny _ A.in1.in1 (do let old ← Builtin.List.listItems (.ref D); Builtin.List.listUpdate (.ref D) (fun _ => #[]); letGo old.toList.reverse; Builtin.List.listExtendWith (.ref D) (.ref a) .none) _ _ _
  refine wpAny_bind ?_
  unfold Builtin.List.listItems
  refine wpAny_bind (wpAny_seqItems (hS1.own' (.head _)) rfl (wpAny_pure ?_))
  show wpAny _ A.in1.in1 (updateSeq D (fun _ => #[]) >>= fun _ => letGo (#[] : Array Value).toList.reverse >>= fun _ => Builtin.List.listExtendWith (.ref D) (.ref a) .none) _ _ _
  refine wpAny_bind (wpAny_updateSeq (hS1.own' (.head _)) rfl ?_)
  have hS2 := hS1.upd (l' := (D, W.listOf ([] : List Value).toArray 0) :: (a, genObj g nm qn) :: l) .head (f := Obj.mapSeq (fun _ => (#[] : Array Value))) rfl rfl
  refine wpAny_bind (wpAny_letGo ?_)
  unfold Builtin.List.listExtendWith
  have hg := genObj_is (hS2.own' (.tail _ (.head _)))
  have hTy : Shared.TypeIs _ (.ref a) "generator" := ⟨_, hS2.own' (.tail _ (.head _)), rfl⟩
  refine wpAny_bind (wpAny_typeOf hTy ?_)
  have h1 : Builtin.List.listSameRef (.ref D) (.ref a) = false := by simp [Builtin.List.listSameRef, hne]
  have h2 : (Value.type "generator" == Value.type "list") = false := by decide
  have h3 : (Value.type "generator" == Value.type "tuple") = false := by decide
  simp only [h1, h2, h3, Bool.or_false, Bool.false_eq_true, if_false]
  refine wpAny_bind (wpAny_pyIter_gen hg ?_)
  refine wpAny_bind (wpAny_holding ?_)
  unfold Builtin.List.listLengthHint
  refine wpAny_bind (wpAny_specialOf hTy F.gen_no_len ?_)
  show wpAny _ A.in1.in1 (specialOf (Value.ref a) (Str.ofString "__length_hint__") >>= _) _ _ _
  refine wpAny_bind (wpAny_specialOf hTy F.gen_no_hint ?_)
  refine wpAny_pure ?_
  show wpAny _ A.in1.in1 (rule "list.extend.makes-room" >>= fun _ => Builtin.List.listTouch (.ref D) >>= fun _ =>
    again (.builtin "list.extend.loop" ⟨[.ref D, .ref a, .none], []⟩)) _ _ _
  refine wpAny_bind (wpAny_rule ?_)
  refine wpAny_bind ?_
  show wpAny _ A.in1.in1 (updateSeq D (·.push .none) >>= fun _ => updateSeq D (·.pop)) _ _ _
  refine wpAny_bind (wpAny_updateSeq (hS2.own' (.head _)) rfl ?_)
  have hS3 := hS2.upd (l' := (D, W.listOf [Value.none].toArray 1) :: (a, genObj g nm qn) :: l) .head (f := Obj.mapSeq (·.push Value.none)) rfl rfl
  refine wpAny_updateSeq (hz := by seq_fits) (hS3.own' (.head _)) rfl ?_
  have hS4 := hS3.upd (l' := (D, W.listOf ([] : List Value).toArray 2) :: (a, genObj g nm qn) :: l) .head (f := Obj.mapSeq (·.pop)) rfl rfl
  refine wpAny_pure ⟨plainId_quiet F.plain_extend_loop _, ?_⟩
  refine extend_units (l := l) (gl := []) (acc := []) (n := 2) hx hxl hT us (hr.in1.le (by omega)) (by simpa using hus) (by rw [List.append_nil]; exact hS4) (hI _) fun s' G' Z' vs n' hle hvs hS' => ?_
  refine ⟨rfl, k D s' G' Z' vs n' hle hvs ?_⟩
  exact hS'
end
local macro_rules | `(tactic| walk_at "lk") => `(tactic| first | with_reducible exact put | with_reducible assumption | ((with_reducible refine' got ?h9 ?n9); (case n9 => decide); (case h9 => walk_at "lk")) | exact rfl)
/-! ### the table of token numbers -/
noncomputable def tkL : List (Str × Nat) := [(Str.ofString "!", 54), (Str.ofString "!=", 28), (Str.ofString "%", 24), (Str.ofString "%=", 40), (Str.ofString "&", 19), (Str.ofString "&=", 41), (Str.ofString "(", 7), (Str.ofString ")", 8), (Str.ofString "*", 16), (Str.ofString "**", 35), (Str.ofString "**=", 46), (Str.ofString "*=", 38), (Str.ofString "+", 14), (Str.ofString "+=", 36), (Str.ofString ",", 12), (Str.ofString "-", 15), (Str.ofString "-=", 37), (Str.ofString "->", 51), (Str.ofString ".", 23), (Str.ofString "...", 52), (Str.ofString "/", 17), (Str.ofString "//", 47), (Str.ofString "//=", 48), (Str.ofString "/=", 39), (Str.ofString ":", 11), (Str.ofString ":=", 53), (Str.ofString ";", 13), (Str.ofString "<", 20), (Str.ofString "<<", 33), (Str.ofString "<<=", 44), (Str.ofString "<=", 29), (Str.ofString "=", 22), (Str.ofString "==", 27), (Str.ofString ">", 21), (Str.ofString ">=", 30), (Str.ofString ">>", 34), (Str.ofString ">>=", 45), (Str.ofString "@", 49), (Str.ofString "@=", 50), (Str.ofString "[", 9), (Str.ofString "]", 10), (Str.ofString "^", 32), (Str.ofString "^=", 43), (Str.ofString "{", 25), (Str.ofString "|", 18), (Str.ofString "|=", 42), (Str.ofString "}", 26), (Str.ofString "~", 31)]
noncomputable def tkEs (P : Params) : List DictEntry := match (obAt P 208).data with
  | .dict es _ => es.toList
  | _ => []
noncomputable def tokOf (x : Str) : Option Nat := (tkL.find? fun p => decide (p.1 = x)).map (·.2)
noncomputable def tokS : Value → Tok
  | .str _ t => t
  | _ => 0
noncomputable def tokI : Value → Tok
  | .int _ t => t
  | _ => 0
theorem tk_es (w : World) : tkEs w.params = (tkL.zip (tkEs w.params)).map fun p => { hash := hashStr w p.1.1, key := .str p.1.1 (tokS p.2.key), val := .int (p.1.2 : Nat) (tokI p.2.val) } := by kernel_rfl
theorem tk_len (w : World) : (tkEs w.params).length = tkL.length := by kernel_rfl
theorem tk_data (w : World) : (obAt w.params 208).data = .dict (tkEs w.params).toArray 48 := by kernel_rfl
theorem tk_ind {w : World} {ks : List (Str × Nat)} : ∀ {es : List DictEntry}, es.length = ks.length → es = (ks.zip es).map (fun p => { hash := hashStr w p.1.1, key := .str p.1.1 (tokS p.2.key), val := .int (p.1.2 : Nat) (tokI p.2.val) }) →
    ∃ kvs : List (Str × Value), Pairs (_root_.PySem.strKind PG w) es kvs ∧ (∀ e ∈ es, ∃ k, (_root_.PySem.strKind PG w).is k e.key = true ∧ e.hash = (_root_.PySem.strKind PG w).hash k) ∧ kvs.map (·.1) = ks.map (·.1) ∧
      ∀ x, (valueAt kvs x = none ∧ (ks.find? fun p => decide (p.1 = x)) = none) ∨ ∃ n t, valueAt kvs x = some (.int (n : Nat) t) ∧ (ks.find? fun p => decide (p.1 = x)).map (·.2) = some n := by
  induction ks with
  | nil =>
    intro es hl _
    cases es with
    | nil => exact ⟨[], .nil, (fun _ h => nomatch h), rfl, fun x => .inl ⟨rfl, rfl⟩⟩
    | cons e es => simp at hl
  | cons kn ks ih =>
   intro es hl he
   obtain ⟨k, n⟩ := kn
   cases es with
   | nil => simp at hl
   | cons e es =>
    rw [List.zip_cons_cons, List.map_cons] at he
    injection he with he1 he2
    obtain ⟨kvs, h1, h2, h3, h4⟩ := ih (es := es) (by simpa using hl) he2
    have hk : (_root_.PySem.strKind PG w).is k e.key = true := by rw [he1]; exact strKind_is PG w _ _
    refine ⟨(k, .int (n : Nat) (tokI e.val)) :: kvs, .cons hk (congrArg DictEntry.val he1) h1, fun e' he' => ?_, by rw [List.map_cons, List.map_cons, h3], fun x => ?_⟩
    · rcases List.mem_cons.mp he' with rfl | he'
      · exact ⟨k, hk, congrArg DictEntry.hash he1⟩
      · exact h2 e' he'
    · by_cases q : k = x
      · refine .inr ⟨n, tokI e.val, ?_, ?_⟩
        · unfold valueAt; simp [q]
        · simp [q]
      · rcases h4 x with ⟨a, b⟩ | ⟨n', t', a, b⟩
        · refine .inl ⟨?_, ?_⟩
          · unfold valueAt at a ⊢; simp only [List.find?_cons, decide_eq_false q]; exact a
          · simp only [List.find?_cons, decide_eq_false q]; exact b
        · refine .inr ⟨n', t', ?_, ?_⟩
          · unfold valueAt at a ⊢; simp only [List.find?_cons, decide_eq_false q]; exact a
          · simp only [List.find?_cons, decide_eq_false q]; exact b
theorem tkL_nd : (tkL.map (·.1)).Nodup := by decide +kernel
section
variable {w : World} {c : Ctx0} {G : Array GenState} {Z : Zone} {ns : List (Addr × (Str → Option Value))} {l : List (Addr × Obj)} {s : Shared} {A : Around} {E : Value → Shared → Prop}
noncomputable def tokV : Option Nat → Tok → Value
  | none, _ => .none
  | some n, t => .int (n : Nat) t
theorem tk_at (h : (KF w).In s.heap) : ∃ kvs : List (Str × Value), s.heap.DictOf (_root_.PySem.strKind PG w) 208 kvs ∧ ∀ x, (valueAt kvs x = none ∧ tokOf x = none) ∨ ∃ n t, valueAt kvs x = some (.int (n : Nat) t) ∧ tokOf x = some n := by
  obtain ⟨kvs, h1, h2, h3, h4⟩ := tk_ind (tk_len w) (tk_es w)
  refine ⟨kvs, ⟨obAt w.params 208, (tkEs w.params).toArray, 48, h 208 _ (by kernel_rfl), ⟨by kernel_rfl, by kernel_rfl, by kernel_rfl⟩, tk_data w, fun e he => h2 e (by simpa using he), by simpa using h1, by rw [h3]; exact tkL_nd⟩, fun x => ?_⟩
  rcases h4 x with ⟨a, b⟩ | ⟨n, t, a, b⟩
  · exact .inl ⟨a, by unfold tokOf; rw [b]; rfl⟩
  · exact .inr ⟨n, t, a, b⟩
/-- EXACT_TOKEN_TYPES.get(x) -/
theorem tk_get1 {x : Str} {t : Tok} {Q : Value → Shared → Prop} (h : S w c G Z ns l s) (hq : ∀ t' s', S w c G Z ns l s' → Q (tokV (tokOf x) t') s') : wpAny (model PG w) A (call (.builtin "dict.get") [.ref 208, .str x t]) Q E s := by
  obtain ⟨kvs, hd, hv⟩ := tk_at h.kin
  refine call_meetsIn F.slot_dict_get hd.typeIs F.entry_dict_get (F.args_dict_get_2 _ _) (meets_dict_get (_root_.PySem.strKind PG w) 208 (strKind_is PG w x t) (by decide)) ⟨_, hd.mapOf, ?_⟩
  rcases hv x with ⟨a, b⟩ | ⟨n, t', a, b⟩
  · rw [a]
    have := hq 0 _ (h.toks (s.toks + 1))
    rw [b] at this; exact this
  · rw [a]
    have := hq t' _ (h.toks (s.toks + 1))
    rw [b] at this; exact this
theorem tk_get2 {x : Str} {t td : Tok} {d : Nat} {Q : Value → Shared → Prop} (h : S w c G Z ns l s) (hq : ∀ t' s', S w c G Z ns l s' → Q (.int ((tokOf x).getD d : Nat) t') s') : wpAny (model PG w) A (call (.builtin "dict.get") [.ref 208, .str x t, .int (d : Nat) td]) Q E s := by
  obtain ⟨kvs, hd, hv⟩ := tk_at h.kin
  refine call_meetsIn F.slot_dict_get hd.typeIs F.entry_dict_get (F.args_dict_get_3 _ _ _) (meets_dict_get_default (_root_.PySem.strKind PG w) 208 (strKind_is PG w x t) (by decide) _) ⟨_, hd.mapOf, ?_⟩
  rcases hv x with ⟨a, b⟩ | ⟨n, t', a, b⟩
  · rw [a]
    have := hq td _ (h.toks (s.toks + 1))
    rw [b] at this; exact this
  · rw [a]
    have := hq t' _ (h.toks (s.toks + 1))
    rw [b] at this; exact this
end
/-- only the arrow has number 51 -/
theorem tok51 (x : Str) : tokOf x = some 51 ↔ x = Str.ofString "->" := by
  constructor
  · intro h
    unfold tokOf at h
    obtain ⟨p, hp, e⟩ := Option.map_eq_some_iff.mp h
    have hm := List.mem_of_find?_eq_some hp
    have hx : p.1 = x := by have := List.find?_some hp; simpa using this
    have key : ∀ p ∈ tkL, p.2 = 51 → p.1 = Str.ofString "->" := by decide +kernel
    rw [← hx]; exact key p hm e
  · rintro rfl; decide +kernel
noncomputable def ntV (P : Params) : Value := ((nsIn (kf P) mainGlobals (Str.ofString "NT_OFFSET")).getD none).getD .none
section
variable {w : World} {c : Ctx0} {G : Array GenState} {Z : Zone} {ns : List (Addr × (Str → Option Value))} {l : List (Addr × Obj)} {s : Shared} {A : Around} {E : Value → Shared → Prop}
/-- ISNONTERMINAL(n) -/
theorem isnt_ok {n : Nat} {t : Tok} {Q : Value → Shared → Prop} (hr : Rm A 5) (h : Z0 w c G Z s) (k : ∀ s', Z0 w ⟨c.H, s, [], Z⟩ G Z s' → Q (.bool (decide (256 ≤ n))) s') : wpAny (model PG w) A (call (.ref 217) [.int (n : Nat) t]) Q E s := by
  have h1 : (KF w).lookup 217 = some (obAt w.params 217) := by kernel_rfl
  have h2 : (obAt w.params 217).data = .func (fdAt w.params 217) := by kernel_rfl
  have h3 : codeIn (KF w) (fdAt w.params 217).code (fdAt w.params 217).qualname = true := by kernel_rfl
  have h4 : (fdAt w.params 217).body = .stmts (bodyAt w.params 217) := by kernel_rfl
  have h5 : bindArgs (fdAt w.params 217) ⟨[.int (n : Nat) t], []⟩ = pure [(Str.ofString "x", .int (n : Nat) t)] := by kernel_rfl
  refine wpAny_call ?_
  with_reducible refine enterN (fun y => if y = Str.ofString "x" then some (.int (n : Nat) t) else none) (fun _ => []) (n := 4) hr h.kin h h1 h2 h3 h4 (bind_pure h5) (by kernel_rfl) (by kernel_rfl) ?_
  intro L s₁ hs hr'
  refine wpAny_execs_cons (wpAny_Return_some ?_)
  with_reducible refine wpAny_Compare1 ?_ (by kernel_rfl)
  with_reducible refine ld hs (v := .int (n : Nat) t) ?_ ?_
  · walk_at "lk"
  refine ldg hs.toZ0 (v := .int 256 (tokI (ntV w.params))) (by kernel_rfl) ?_
  refine ge_int ?_
  have e : decide ((256 : Int) ≤ (n : Int)) = decide (256 ≤ n) := by rw [Bool.eq_iff_iff, decide_eq_true_iff, decide_eq_true_iff]; omega
  rw [e]
  exact k _ hs.toZ0
/-- units[i][j] -/
theorem unit_sub {env : Env} {idx : PySem.Expr} {p1 p2 p3 p4 : Pos} {k1 : Nat} {j : Int} {C D : Addr} {vs : List Value} {us : List (Nat × List Nat)} {n : Nat} {Q : Value → Shared → Prop} (hS : S w c G Z ns l s) (hC : (C, cellO (some (.ref D))) ∈ l) (hD : (D, W.listOf vs.toArray n) ∈ l) (hus : UnitsAt Z vs us)
    (hvl : vs.length ≤ 10000)
    (hi : wpAny (model PG w) A (eval idx env) (fun v s' => ∃ (i : Nat) (t : Tok) (u : Nat × List Nat), v = .int (i : Nat) t ∧ us[i]? = some u ∧ S w c G Z ns l s' ∧ (j = 0 ∨ j = 1) ∧ ∀ t' s'', S w c G Z ns l s'' → Q (if j = 0 then .int (u.1 : Nat) t' else .str ⟨u.2.toArray⟩ t') s'') E s)
    (hsub : (fun (i : Int) (t : Tok) => subscripted idx false (.ref D) (.int i t)) = fun i t => operate [.ref D, .int i t] (getItem (.ref D) (.int i t)) := by kernel_rfl)
    (hcell : env.cells.lookup (Str.ofString "units") = some C := by kernel_rfl) (hk : env.scope.kind = .function := by kernel_rfl) (hl : env.kindOf (Str.ofString "units") = some .cell := by kernel_rfl) :
    wpAny (model PG w) A (eval (.Subscript (.Subscript (.Name (Str.ofString "units") p1) idx p2) (.Constant (.int j) k1 p3) p4) env) Q E s := by
  refine Subscript_ (Subscript_ (ldc hS hC (wpAny_mono hi (fun v s2 h2 => ?_) fun _ _ x => x) hcell hk hl))
  obtain ⟨i, t, u, rfl, hu, hS2, hj, hQ⟩ := h2
  have hv : ∃ b t1 t2, vs[i]? = some (.ref b) ∧ Z b = some (unitObj u t1 t2) := by
    have hlt : i < vs.length := by
      rw [hus.length]
      exact (List.getElem?_eq_some_iff.mp hu).1
    obtain ⟨b, u', t1, t2, e1, e2, e3⟩ := hus.at (List.getElem?_eq_getElem hlt)
    rw [hu] at e2; injection e2 with e2; subst e2
    exact ⟨b, t1, t2, by rw [List.getElem?_eq_getElem hlt, e1], e3⟩
  obtain ⟨b, t1, t2, hv, hb⟩ := hv
  have hilt : i < vs.length := (List.getElem?_eq_some_iff.mp hv).1
  refine item_at (hS2.own' hD) (by omega) ?_ (v := .ref b) (by simpa using hv) ?_ (congrFun (congrFun hsub _) _)
  · omega
  with_reducible refine con_int hS2 fun t3 s3 hS3 => ?_
  rcases hj with rfl | rfl
  · refine item_tup (hS3.z _ _ hb) (by decide) (by decide) (by show (0 : Int) < 2; decide) rfl ?_ rfl
    have := hQ t1 s3 hS3
    rw [if_pos rfl] at this
    exact this
  · refine item_tup (hS3.z _ _ hb) (by decide) (by decide) (by show (1 : Int) < 2; decide) rfl ?_ rfl
    have := hQ t2 s3 hS3
    rw [if_neg (by decide)] at this
    exact this
end
noncomputable abbrev paEnv (w : World) (L : Addr) : Env := callEnvC (fdAt w.params 227) L 227
noncomputable def paFor (P : Params) : Stmt := match bodyAt P 227 with
  | _ :: a :: _ => a
  | _ => .Pass ⟨0, 0, 0, 0⟩
noncomputable def paBody (P : Params) : List Stmt := match paFor P with
  | .For _ _ b _ _ => b
  | _ => []
noncomputable def paIf (P : Params) : Stmt := match paBody P with
  | _ :: a :: _ => a
  | _ => .Pass ⟨0, 0, 0, 0⟩
noncomputable def paTest (P : Params) : PySem.Expr := match paIf P with
  | .If t _ _ _ => t
  | _ => .Constant .none 0 ⟨0, 0, 0, 0⟩
noncomputable def paPlace (P : Params) : Stmt := match paBody P with
  | a :: _ => a
  | _ => .Pass ⟨0, 0, 0, 0⟩
noncomputable def unitAt (us : List (Nat × List Nat)) (k : Nat) : Nat × List Nat := us.getD k (0, [])
noncomputable def arrowAt (us : List (Nat × List Nat)) (k : Nat) : Bool := decide ((unitAt us (k - 1)).2 ++ (unitAt us k).2 = [45, 62])
noncomputable def cutAt (x : List Nat) (us : List (Nat × List Nat)) (k : Nat) : Bool := arrowAt us k && checkP (x.take (unitAt us (k - 1)).1)
/-- what must be known of a text to look for its arrow -/
structure TextOK (x : List Nat) (us : List (Nat × List Nat)) : Prop where
  isU : us = unitsFrom 0 false x
  asc : x.all (· < 128) = true
  len : x.length ≤ 900
  ulen : us.length ≤ 900
  pos : ∀ u ∈ us, u.1 ≤ 900 ∧ u.2.length ≤ 2
  cut : ∀ k, 1 ≤ k → k < us.length → arrowAt us k = true → (stripP (x.take (unitAt us (k - 1)).1)).all (· < 128) = true ∧ (stripP (x.take (unitAt us (k - 1)).1)).length ≤ 1000
theorem unitAt_get {us : List (Nat × List Nat)} {k : Nat} (h : k < us.length) : us[k]? = some (unitAt us k) := by
  unfold unitAt
  rw [List.getD_eq_getElem?_getD, List.getElem?_eq_getElem h]; rfl
theorem arrow_str (a b : List Nat) : ((⟨a.toArray⟩ : Str) ++ (⟨b.toArray⟩ : Str) = Str.ofString "->") ↔ a ++ b = [45, 62] := by
  have e : Str.ofString "->" = ⟨[45, 62].toArray⟩ := by decide +kernel
  rw [e]
  constructor
  · intro h
    have this : a.toArray ++ b.toArray = [45, 62].toArray := congrArg Str.cps h
    simpa using congrArg Array.toList this
  · intro h
    show (⟨a.toArray ++ b.toArray⟩ : Str) = _
    congr 1
    rw [← h]; simp
section
variable {w : World} {c : Ctx0} {G : Array GenState} {Z : Zone} {ns : List (Addr × (Str → Option Value))} {l : List (Addr × Obj)} {s : Shared} {A : Around} {E : Value → Shared → Prop}
/-- place = units[k - 1][0] -/
theorem pa_place {L D : Addr} {m : Str → Option Value} {vs : List Value} {n k : Nat} {us : List (Nat × List Nat)} {tk : Tok} {Q : Flow → Shared → Prop} {st' : Stmt} (hst : st' = paPlace w.params) (hS : S w c G Z (((paEnv w L).locals, m) :: ns) l s) (hC : (L + 1, cellO (some (.ref D))) ∈ l) (hD : (D, W.listOf vs.toArray n) ∈ l) (hus : UnitsAt Z vs us) (hvl : vs.length ≤ 10000)
    (hk1 : 1 ≤ k) (hk2 : k < us.length) (hm : m (Str.ofString "k") = some (.int (k : Nat) tk))
    (kk : ∀ t s', S w c G Z (((paEnv w L).locals, fun y => if y = Str.ofString "place" then some (.int ((unitAt us (k - 1)).1 : Nat) t) else m y) :: ns) l s' → Q .next s') : wpAny (model PG w) A (exec st' (paEnv w L)) Q E s := by
  subst hst
  refine wpAny_Assign_Name ?_
  refine unit_sub (C := L + 1) hS hC hD hus hvl ?_
  with_reducible refine wpAny_BinOp ?_
  with_reducible refine ld hS hm ?_
  with_reducible refine con_int hS fun t2 s2 hS2 => ?_
  refine sub_int ?_
  rw [show ((k : Nat) : Int) - 1 = ((k - 1 : Nat) : Int) by omega]
  refine ⟨k - 1, _, _, rfl, unitAt_get (by omega), hS2.toks _, .inl rfl, fun t' s3 hS3 => ?_⟩
  rw [if_pos rfl]
  exact st hS3 fun s4 hS4 => kk t' s4 hS4
/-- the arrow's test -/
theorem pa_test {L D : Addr} {m : Str → Option Value} {vs : List Value} {n k : Nat} {x : List Nat} {us : List (Nat × List Nat)} {tk tp tx : Tok} {Q : Bool → Shared → Prop} {t : PySem.Expr} (ht : t = paTest w.params) (hr : Rm A 30) (hT : c.T = []) (hX : TextOK x us)
    (hS : S w c G Z (((paEnv w L).locals, m) :: ns) l s) (hC : (L + 1, cellO (some (.ref D))) ∈ l) (hD : (D, W.listOf vs.toArray n) ∈ l) (hus : UnitsAt Z vs us) (hk1 : 1 ≤ k) (hk2 : k < us.length) (hmk : m (Str.ofString "k") = some (.int (k : Nat) tk)) (hmp : m (Str.ofString "place") = some (.int ((unitAt us (k - 1)).1 : Nat) tp)) (hmt : m (Str.ofString "text") = some (.str (mkS x) tx))
    (kk : ∀ G' Z' s', Z.le Z' → S w c G' Z' (((paEnv w L).locals, m) :: ns) l s' → Q (cutAt x us k) s') : wpAny (model PG w) A (isTrue t (paEnv w L) (eval t (paEnv w L))) Q E s := by
  subst ht
  have hvl : vs.length ≤ 10000 := by have := hX.ulen; rw [hus.length]; omega
  have u1 := hX.pos _ (List.mem_of_getElem? (unitAt_get (us := us) (k := k - 1) (by omega)))
  have u2 := hX.pos _ (List.mem_of_getElem? (unitAt_get hk2))
  refine isTrue_and ?_
  with_reducible refine wpAny_isTrue_Compare1 ?_ (by kernel_rfl)
  with_reducible refine callO F.plainAttrs_dict F.slot_dict_get F.type_dict_get ?_
  refine ldg hS.toZ0 (v := .ref 208) (by kernel_rfl) ?_
  have hob : ∃ ob, s.heap.get? 208 = some ob ∧ ob.cls = .type "dict" ∧ ob.dict = none := ⟨_, hS.kin 208 (obAt w.params 208) (by kernel_rfl), by kernel_rfl, by kernel_rfl⟩
  obtain ⟨ob, hob, hcls, hdict⟩ := hob
  refine ⟨⟨ob, hob, hcls⟩, fun a e => ⟨ob, by cases e; exact hob, hdict⟩, ?_⟩
  with_reducible refine wpAny_BinOp ?_
  refine unit_sub (C := L + 1) hS hC hD hus hvl ?_
  with_reducible refine wpAny_BinOp ?_
  with_reducible refine ld hS hmk ?_
  with_reducible refine con_int hS fun t2 s2 hS2 => ?_
  refine sub_int ?_
  rw [show ((k : Nat) : Int) - 1 = ((k - 1 : Nat) : Int) by omega]
  refine ⟨k - 1, _, _, rfl, unitAt_get (by omega), hS2.toks _, .inr rfl, fun t3 s3 hS3 => ?_⟩
  rw [if_neg (by decide)]
  refine unit_sub (C := L + 1) hS3 hC hD hus hvl ?_
  with_reducible refine ld hS3 hmk ?_
  refine ⟨k, _, _, rfl, unitAt_get hk2, hS3, .inr rfl, fun t4 s4 hS4 => ?_⟩
  rw [if_neg (by decide)]
  refine add_str' hS4 (by show (unitAt us (k - 1)).2.toArray.size + (unitAt us k).2.toArray.size ≤ sizeLine; rw [List.size_toArray, List.size_toArray, sizeLine_eq]; omega) fun t5 s5 hS5 => ?_
  refine tk_get1 hS5 fun t6 s6 hS6 => ?_
  with_reducible refine con_int hS6 fun t7 s7 hS7 => ?_
  refine wpAny_mono (Q := fun v s' => v = .bool (arrowAt us k) ∧ s' = s7) ?_ (fun v s8 h8 => ?_) (fun _ _ x => x)
  · have harr := (tok51 ((⟨(unitAt us (k - 1)).2.toArray⟩ : Str) ++ (⟨(unitAt us k).2.toArray⟩ : Str))).trans (arrow_str _ _)
    cases hto : tokOf ((⟨(unitAt us (k - 1)).2.toArray⟩ : Str) ++ (⟨(unitAt us k).2.toArray⟩ : Str)) with
    | none =>
      refine PySem.EqNone.eq_none_int ⟨?_, rfl⟩
      unfold arrowAt
      rw [decide_eq_false]
      intro q
      rw [harr.mpr q] at hto; cases hto
    | some v =>
      refine PyProof.Rows.eq_int ⟨?_, rfl⟩
      unfold arrowAt
      congr 1
      rw [Bool.eq_iff_iff, beq_iff_eq, decide_eq_true_iff]
      rw [hto] at harr
      constructor
      · intro q
        refine harr.mp ?_
        have : v = 51 := by omega
        rw [this]
      · intro q
        have := harr.mpr q
        injection this with this
        rw [this]; rfl
  obtain ⟨rfl, rfl⟩ := h8
  refine wpAny_truthy_bool ?_
  unfold cutAt at kk
  by_cases ha : arrowAt us k = true
  · rw [ha] at kk ⊢
    rw [if_pos rfl]
    simp only [Bool.true_and] at kk
    obtain ⟨c1, c2⟩ := hX.cut k hk1 hk2 ha
    refine isTrue_and ?_
    with_reducible refine wpAny_isTrue_Compare1 ?_ (by kernel_rfl)
    with_reducible refine callT (T := "str") ?_
    with_reducible refine is_ldb hS7.toZ0 (by kernel_rfl) (by kernel_rfl) ?_
    with_reducible refine args_one ?_
    with_reducible refine callF (f := 207) (by kernel_rfl) ?_
    with_reducible refine is_ldg hS7.toZ0 (by kernel_rfl) ?_
    with_reducible refine args_one ?_
    with_reducible refine sl_str (mkS x) tx none (some ((unitAt us (k - 1)).1, tp)) ?_
    with_reducible refine ld hS7 hmt ?_
    refine ⟨rfl, part_none ⟨rfl, part_some (ld hS7 hmp ⟨rfl, c, G, Z, _, _, hS7, by rw [mkS_len, sizeLine_eq]; have := hX.len; omega, fun t9 s9 hS9 => ⟨hS9.kin, ?_⟩⟩)⟩⟩
    have esl : Txt.slice (mkS x) (Option.map (·.1) (none : Option (Int × Tok))) (Option.map (·.1) (some (((unitAt us (k - 1)).1 : Int), tp))) = mkS (x.take (unitAt us (k - 1)).1) := by
      show Txt.slice (mkS x) none (some ((unitAt us (k - 1)).1 : Int)) = _
      rw [slice_to, mkS_list]; rfl
    rw [esl]
    have hasc : (x.take (unitAt us (k - 1)).1).all (· < 128) = true := by
      rw [List.all_eq_true]; intro y hy
      exact List.all_eq_true.mp hX.asc y (List.mem_of_mem_take hy)
    refine check_ok (hr.le (by omega)) (mkS_all _ hasc) (by rw [mkS_len, List.length_take]; have := hX.len; omega) hS9.toZ0 (by rw [mkS_list]; exact c1) (by rw [mkS_list]; exact c2) fun s10 Z10 G10 hZ10 => ?_
    rw [mkS_list]
    have hS10 := hS9.back hZ10 (fun a ha => by rw [hT] at ha; cases ha)
    refine P.str_of_bool ?_
    have hS11 := hS10.toks (s10.toks + 1)
    with_reducible refine con_str hS11 fun t12 s12 hS12 => ?_
    refine PyProof.Rows.eq_str (wpAny_truthy_bool ?_)
    have eb : ((if checkP (x.take (unitAt us (k - 1)).1) = true then ("True" : Str) else "False") == Str.ofString "True") = checkP (x.take (unitAt us (k - 1)).1) := by
      cases checkP (x.take (unitAt us (k - 1)).1)
      · rw [if_neg (by decide)]; decide +kernel
      · rw [if_pos rfl]; decide +kernel
    rw [eb]
    have := kk G10 Z10 s12 hZ10.zle hS12
    cases hb : checkP (x.take (unitAt us (k - 1)).1) with
    | true => rw [if_pos rfl]; rw [hb] at this; exact isTrue_and_nil this
    | false => rw [if_neg (by decide)]; rw [hb] at this; exact this
  · have ha' : arrowAt us k = false := by simpa using ha
    rw [ha'] at kk ⊢
    rw [if_neg (by decide)]
    exact kk G Z _ (.refl Z) hS7
end
noncomputable def paKinds (P : Params) : Stmt := match bodyAt P 227 with
  | _ :: _ :: a :: _ => a
  | _ => .Pass ⟨0, 0, 0, 0⟩
noncomputable def paName (P : Params) : Stmt := match bodyAt P 227 with
  | _ :: _ :: _ :: a :: _ => a
  | _ => .Pass ⟨0, 0, 0, 0⟩
noncomputable def kindOfU (u : Nat × List Nat) : Bool := decide (256 ≤ (tokOf ⟨u.2.toArray⟩).getD (if u.2.length = 2 then 255 else 256 + u.1))
noncomputable def boolS (b : Bool) : Str := if b then "True" else "False"
noncomputable def nameOfU (us : List (Nat × List Nat)) : List Nat := ((us.filter kindOfU).map (·.2)).flatten
section
variable {w : World} {c : Ctx0} {G : Array GenState} {Z : Zone} {ns : List (Addr × (Str → Option Value))} {l : List (Addr × Obj)} {s : Shared} {A : Around} {E : Value → Shared → Prop}
/-- a builtin type's method with two arguments -/
theorem callO2 {env : Env} {pos : Pos} {o e f : PySem.Expr} {name : Str} {apos : Pos} {T id : String} {Q : Value → Shared → Prop} (pa : PlainAttrs T) (slot : Slot T name id) (hty : typeOf (.builtin id) = pure (.type "method_descriptor"))
    (h : wpAny (model PG w) A (eval o env) (fun ov s₁ => s₁.TypeIs ov T ∧ (∀ a, ov = .ref a → ∃ ob, s₁.heap.get? a = some ob ∧ ob.dict = none) ∧ wpAny (model PG w) A (eval e env) (fun v s₂ => wpAny (model PG w) A (eval f env) (fun u s₃ => wpAny (model PG w) A (call (.builtin id) [ov, v, u]) Q E s₃) E s₂) E s₁) E s)
    (hbase : attributeBase o name env (eval o env) = eval o env := by kernel_rfl)
    (hs : starEach [e, f] env = [(false, eval e env), (false, eval f env)] := by kernel_rfl) (hline : (apos.endLine == pos.line) = true := by kernel_rfl) :
    wpAny (model PG w) A (eval (.Call (.Attribute o name apos) [e, f] [] pos) env) Q E s := by
  refine Call_method2 hbase hs hline (wpAny_mono h (fun ov s₁ h₁ => ?_) fun _ _ x => x)
  obtain ⟨hT, hd, h₁⟩ := h₁
  exact ⟨T, id, pa, slot, hty, hT, hd, Calls.callWith_builtin rfl (Calls.evalArgs_plain (Calls.spliced_cons (wpAny_mono h₁ (fun _ _ q => Calls.spliced_cons (wpAny_mono q (fun _ _ q => Calls.spliced_nil q) fun _ _ x => x)) fun _ _ x => x)))⟩
/-- kinds = [..] -/
theorem pa_kinds {L D : Addr} {m : Str → Option Value} {vs : List Value} {n : Nat} {us : List (Nat × List Nat)} {Q : Flow → Shared → Prop} {st' : Stmt} (hst : st' = paKinds w.params) (hr : Rm A 30) (hT : c.T = []) (hpos : ∀ u ∈ us, u.1 ≤ 900 ∧ u.2.length ≤ 2) (hul : us.length ≤ 900)
    (hS : S w c G Z (((paEnv w L).locals, m) :: ns) ((L + 2, cellO none) :: (L + 1, cellO (some (.ref D))) :: (D, W.listOf vs.toArray n) :: l) s) (hus : UnitsAt Z vs us)
    (k : ∀ K ks kn Z' s', Z.le Z' → StrsV ks (us.map fun u => boolS (kindOfU u)) → S w c G Z' (((paEnv w L).locals, m) :: ns) ((L + 2, cellO (some (.ref K))) :: (K, W.listOf ks.toArray kn) :: (L + 1, cellO (some (.ref D))) :: (D, W.listOf vs.toArray n) :: l) s' → Q .next s') :
    wpAny (model PG w) A (exec st' (paEnv w L)) Q E s := by
  subst hst
  have hvl : vs.length = us.length := hus.length
  refine wpAny_Assign_Name ?_
  refine comp (cl := []) ?_
  with_reducible refine ldc hS (a := L + 1) (v := .ref D) (List.Mem.tail _ (List.Mem.head _)) ?_
  refine iter_list hS (hS.own' (.tail _ (.tail _ (.head _)))) fun I io s4 hne hJ hIc hS4 => ?_
  refine ⟨c, G, Z, _, ns, _, I, io, kList D vs, fun i ys Z' => StrsV ys ((us.take i).map fun u => boolS (kindOfU u)), rfl, itr_list hr.handled I D hne vs, hJ, by show vs.length ≤ 10000; omega, hS4, (fun a ha => by rw [hT] at ha; cases ha), .nil, fun Z' ns' a b s' hS' _ => isList_of (hS'.own' (.tail _ (.tail _ (.tail _ (.tail _ (.head _)))))), ?_, ?_⟩
  · intro C D2 i v ys Z' m' k' io' s8 E hi hP hJ' hI hle hS8
    obtain ⟨b, u, t1, t2, rfl, hu, hb⟩ := hus.at hP
    have hu2 := hpos u (List.mem_of_getElem? hu)
    refine wpAny_letOwnedTupleGo_listiter (i := i + 1) (l := D) ⟨io', hS8.own' (.head _), hJ'.1, hJ'.2⟩ ?_
    refine assign_two hr.handled hS8 (hS8.z _ _ (hle _ _ hb)) fun s9 hS9 => ?_
    refine wpAny_pure ?_
    rw [if_pos rfl]
    refine absQ fun Q5 hQ5 => ?_
    with_reducible refine callT (T := "str") ?_
    with_reducible refine is_ldb hS9.toZ0 (by kernel_rfl) (by kernel_rfl) ?_
    with_reducible refine args_one ?_
    with_reducible refine callF (f := 217) (by kernel_rfl) ?_
    with_reducible refine is_ldg hS9.toZ0 (by kernel_rfl) ?_
    with_reducible refine args_one ?_
    with_reducible refine callO2 F.plainAttrs_dict F.slot_dict_get F.type_dict_get ?_
    refine ldg hS9.toZ0 (v := .ref 208) (by kernel_rfl) ?_
    have hob : ∃ ob, s9.heap.get? 208 = some ob ∧ ob.cls = .type "dict" ∧ ob.dict = none := ⟨_, hS9.kin 208 (obAt w.params 208) (by kernel_rfl), by kernel_rfl, by kernel_rfl⟩
    obtain ⟨ob, hob, hcls, hdict⟩ := hob
    refine ⟨⟨ob, hob, hcls⟩, fun a e => ⟨ob, by cases e; exact hob, hdict⟩, ?_⟩
    with_reducible refine ld hS9 (v := .str ⟨u.2.toArray⟩ t2) ?_ ?_
    · walk_at "lk"
    refine wpAny_mono (Q := fun d s' => ∃ td, d = .int ((if u.2.length = 2 then 255 else 256 + u.1 : Nat) : Int) td ∧ S w c G Z' ((C, fun y => if y = Str.ofString "unit" then some (.str ⟨u.2.toArray⟩ t2) else (fun y => if y = Str.ofString "place" then some (.int (u.1 : Nat) t1) else m' y) y) :: ((paEnv w L).locals, m) :: ns) ((I, io') :: (D2, W.listOf ys.toArray k') :: (L + 2, cellO none) :: (L + 1, cellO (some (.ref D))) :: (D, W.listOf vs.toArray n) :: l) s') ?_ (fun d s10 h10 => ?_) (fun _ _ x => x)
    · refine wpAny_IfExp ?_
      with_reducible refine wpAny_isTrue_Compare1 ?_ (by kernel_rfl)
      with_reducible refine callB (id := "len") ?_
      with_reducible refine is_ldb hS9.toZ0 (by kernel_rfl) (by kernel_rfl) ?_
      with_reducible refine args_one ?_
      with_reducible refine ld hS9 (v := .str ⟨u.2.toArray⟩ t2) ?_ ?_
      · walk_at "lk"
      have hlen : (⟨u.2.toArray⟩ : Str).length = u.2.length := by simp [Str.length]
      refine PyProof.Rows.len_str (by rw [hlen]; omega) ?_
      have hS10 := hS9.toks (s9.toks + 1 + 1)
      with_reducible refine con_int hS10 fun t11 s11 hS11 => ?_
      refine PyProof.Rows.eq_int (wpAny_truthy_bool ?_)
      rw [hlen, show ((u.2.length : Int) == 2) = decide (u.2.length = 2) by rw [Bool.eq_iff_iff, beq_iff_eq, decide_eq_true_iff]; omega]
      by_cases h2 : u.2.length = 2
      · rw [decide_eq_true h2]
        rw [if_pos rfl]
        refine con_int hS11 fun t12 s12 hS12 => ⟨t12, ?_, hS12⟩
        rw [if_pos h2]; rfl
      · rw [decide_eq_false h2]
        rw [if_neg (by decide)]
        with_reducible refine wpAny_BinOp ?_
        with_reducible refine con_int hS11 fun t12 s12 hS12 => ?_
        with_reducible refine ld hS12 (v := .int (u.1 : Nat) t1) ?_ ?_
        · walk_at "lk"
        refine add_int ⟨s12.toks, ?_, hS12.toks _⟩
        rw [if_neg h2]
        congr 1
    obtain ⟨td, rfl, hS10⟩ := h10
    refine tk_get2 hS10 fun t11 s11 hS11 => ⟨hS11.kin, ?_⟩
    refine isnt_ok (hr.le (by omega)) hS11.toZ0 fun s12 hZ12 => ?_
    have hS12 := hS11.back hZ12 (fun a ha => by rw [hT] at ha; cases ha)
    refine P.str_of_bool ?_
    refine hQ5 _ _ ⟨Z', _, hle, hS12.toks _, ?_⟩
    show StrsV _ (List.map (fun u => boolS (kindOfU u)) (List.take (i + 1) us))
    rw [take_succ_map (fun u => boolS (kindOfU u)) hu]
    exact hI.snoc _ _
  · intro K ks Z' kn s8 hK hI hle hS8
    have e : (kList D vs).n = us.length := hvl
    have hI : StrsV ks (List.map (fun u => boolS (kindOfU u)) (List.take (kList D vs).n us)) := hI
    rw [e, List.take_length] at hI
    have hS9 := hS8.perm (l' := (L + 2, cellO none) :: (K, W.listOf ks.toArray kn) :: (L + 1, cellO (some (.ref D))) :: (D, W.listOf vs.toArray n) :: l) (List.Perm.swap _ _ _)
    refine stc hS9 (a := L + 2) .head fun s10 hS10 => ?_
    exact k K ks kn Z' s10 hle hI hS10
theorem StrsV.lst {vs : List Value} {xs : List Str} (h : StrsV vs xs) : ∃ lst : List (Str × Tok), vs = strValues lst ∧ lst.map (·.1) = xs := by
  induction h with
  | nil => exact ⟨[], rfl, rfl⟩
  | cons x t _ ih =>
    obtain ⟨lst, e1, e2⟩ := ih
    exact ⟨(x, t) :: lst, by rw [e1]; rfl, by rw [List.map_cons, e2]⟩
/-- name = ''.join(..) -/
theorem pa_name {L D K : Addr} {m : Str → Option Value} {vs ks : List Value} {n kn : Nat} {us : List (Nat × List Nat)} {Q : Flow → Shared → Prop} {st' : Stmt} (hst : st' = paName w.params) (hr : Rm A 30) (hT : c.T = []) (hpos : ∀ u ∈ us, u.1 ≤ 900 ∧ u.2.length ≤ 2) (hul : us.length ≤ 900)
    (hS : S w c G Z (((paEnv w L).locals, m) :: ns) ((L + 2, cellO (some (.ref K))) :: (K, W.listOf ks.toArray kn) :: (L + 1, cellO (some (.ref D))) :: (D, W.listOf vs.toArray n) :: l) s) (hus : UnitsAt Z vs us) (hks : StrsV ks (us.map fun u => boolS (kindOfU u)))
    (k : ∀ Z' t s', Z.le Z' → S w c G Z' (((paEnv w L).locals, fun y => if y = Str.ofString "name" then some (.str (mkS (nameOfU us)) t) else m y) :: ns) l s' → Q .next s') :
    wpAny (model PG w) A (exec st' (paEnv w L)) Q E s := by
  subst hst
  have hvl : vs.length = us.length := hus.length
  refine wpAny_Assign_Name ?_
  with_reducible refine callS F.slot_str_join F.type_str_join ?_
  with_reducible refine con_str hS fun t1 s1 hS1 => ?_
  refine ⟨_, _, rfl, ?_⟩
  refine comp (cl := [(Str.ofString "units", L + 1), (Str.ofString "kinds", L + 2)]) ?_
  with_reducible refine callT (T := "range") ?_
  with_reducible refine is_ldb hS1.toZ0 (by kernel_rfl) (by kernel_rfl) ?_
  with_reducible refine args_one ?_
  with_reducible refine callB (id := "len") ?_
  with_reducible refine is_ldb hS1.toZ0 (by kernel_rfl) (by kernel_rfl) ?_
  with_reducible refine args_one ?_
  with_reducible refine ldc hS1 (a := L + 1) (v := .ref D) (List.Mem.tail _ (List.Mem.tail _ (List.Mem.head _))) ?_
  have hD1 := hS1.own' (.tail _ (.tail _ (.tail _ (.head _))))
  have hsz : vs.toArray.size ≤ 1000 := by rw [List.size_toArray]; omega
  with_reducible refine len_ok hS1 hD1 hsz fun t2 s2 hS2 => ?_
  rw [show vs.toArray.size = us.length by rw [List.size_toArray, hvl]]
  with_reducible refine iter_range1 hS2 (by omega) fun r ro s3 hS3 hIt => ?_
  refine hIt _ _ _ _ _ _ _ hS3 (.head _) fun I io s4 hJ hIc hS4 => ?_
  refine ⟨c, G, Z, _, ns, _, I, io, kRange 0 us.length, fun i ys Z' => StrsV ys (((us.take i).filter kindOfU).map fun u => mkS u.2), rfl, itr_range hr.handled I 0 _, hJ, by show us.length ≤ 10000; omega, hS4, (fun a ha => by rw [hT] at ha; cases ha), .nil, fun _ _ _ _ _ _ _ => trivial, ?_, ?_⟩
  · intro C D2 i v ys Z' m' k' io' s8 E hi hP hJ' hI hle hS8
    obtain ⟨ti, rfl⟩ := hP
    have hi : i < us.length := hi
    have hiv : (0 : Int) + (i : Int) * 1 = (i : Int) := by omega
    rw [hiv]
    have hu := unitAt_get hi
    have hstep := filter_step (p := kindOfU) (f := fun u => mkS u.2) hu
    generalize unitAt us i = u at *
    have hkv : ks[i]? = some (.str (boolS (kindOfU u)) (tokS (ks.getD i .none))) := by
      have hlt : i < ks.length := by rw [hks.length, List.length_map]; exact hi
      obtain ⟨x, t, e1, e2⟩ := hks.at (List.getElem?_eq_getElem hlt)
      rw [List.getElem?_map, hu] at e2
      injection e2 with e2
      subst e2
      rw [List.getD_eq_getElem?_getD, List.getElem?_eq_getElem hlt, e1]; rfl
    have mK : (K, W.listOf ks.toArray kn) ∈ (I, io') :: (D2, W.listOf ys.toArray k') :: (r, ro) :: (L + 2, cellO (some (.ref K))) :: (K, W.listOf ks.toArray kn) :: (L + 1, cellO (some (.ref D))) :: (D, W.listOf vs.toArray n) :: l := .tail _ (.tail _ (.tail _ (.tail _ (.head _))))
    have mC : (L + 1, cellO (some (.ref D))) ∈ (I, io') :: (D2, W.listOf ys.toArray k') :: (r, ro) :: (L + 2, cellO (some (.ref K))) :: (K, W.listOf ks.toArray kn) :: (L + 1, cellO (some (.ref D))) :: (D, W.listOf vs.toArray n) :: l := .tail _ (.tail _ (.tail _ (.tail _ (.tail _ (.head _)))))
    have mD : (D, W.listOf vs.toArray n) ∈ (I, io') :: (D2, W.listOf ys.toArray k') :: (r, ro) :: (L + 2, cellO (some (.ref K))) :: (K, W.listOf ks.toArray kn) :: (L + 1, cellO (some (.ref D))) :: (D, W.listOf vs.toArray n) :: l := .tail _ (.tail _ (.tail _ (.tail _ (.tail _ (.tail _ (.head _))))))
    have m2 : (L + 2, cellO (some (.ref K))) ∈ (I, io') :: (D2, W.listOf ys.toArray k') :: (r, ro) :: (L + 2, cellO (some (.ref K))) :: (K, W.listOf ks.toArray kn) :: (L + 1, cellO (some (.ref D))) :: (D, W.listOf vs.toArray n) :: l := .tail _ (.tail _ (.tail _ (.head _)))
    refine wpAny_pure ?_
    refine wpAny_assign_Name (st hS8 fun s9 hS9 => ?_)
    rw [List.forIn_cons]
    simp only [if_true]
    with_reducible refine wpAny_bind ?_
    with_reducible refine wpAny_bind ?_
    with_reducible refine wpAny_isTrue_Compare1 ?_ (by kernel_rfl)
    with_reducible refine Subscript_ ?_
    with_reducible refine ldc hS9 (a := L + 2) (v := .ref K) m2 ?_
    with_reducible refine ld hS9 (v := .int (i : Nat) ti) ?_ ?_
    · walk_at "lk"
    refine item_at (hS9.own' mK) (by omega) (by omega) (by simpa using hkv) ?_
    with_reducible refine con_str hS9 fun t10 s10 hS10 => ?_
    refine PyProof.Rows.eq_str (wpAny_truthy_bool (wpAny_pure ?_))
    refine wpAny_pure ?_
    have eb : (boolS (kindOfU u) == Str.ofString "True") = kindOfU u := by
      cases kindOfU u <;> decide +kernel
    rw [eb]
    by_cases q : kindOfU u = true
    · rw [if_pos q] at hstep ⊢
      refine unit_sub (C := L + 1) hS10 mC mD (hus.mono hle) (by omega) ?_
      with_reducible refine ld hS10 (v := .int (i : Nat) ti) ?_ ?_
      · walk_at "lk"
      refine ⟨i, _, _, rfl, hu, hS10, .inr rfl, fun t11 s11 hS11 => ?_⟩
      rw [if_neg (by decide)]
      refine ⟨Z', _, hle, hS11, ?_⟩
      show StrsV _ (((us.take (i + 1)).filter kindOfU).map fun u => mkS u.2)
      rw [hstep]
      exact hI.snoc _ _
    · rw [if_neg q] at hstep ⊢
      refine ⟨Z', _, hle, hS10, ?_⟩
      show StrsV _ (((us.take (i + 1)).filter kindOfU).map fun u => mkS u.2)
      rw [hstep, List.append_nil]
      exact hI
  · intro D3 ys Z' kn2 s8 hD hI hle hS8
    have hI : StrsV ys (((us.take us.length).filter kindOfU).map fun u => mkS u.2) := hI
    rw [List.take_length] at hI
    obtain ⟨lst, rfl, el⟩ := hI.lst
    have em : ((us.filter kindOfU).map fun u => mkS u.2) = ((us.filter kindOfU).map (·.2)).map mkS := by rw [List.map_map]; rfl
    rw [em] at el
    rw [show Str.ofString "" = (⟨#[]⟩ : Str) from by decide +kernel]
    refine SC.join (isList_of (hS8.own' (.head _))) el (join_ok _ (fun y hy => ?_) ?_) fun t' kk => ?_
    · obtain ⟨u, hu, rfl⟩ := List.mem_map.mp hy
      have := (hpos u (List.mem_filter.mp hu).1).2; omega
    · rw [List.length_map]
      have := List.length_filter_le kindOfU us; omega
    rw [txt_join_flat]
    refine st (hS8.toks kk) fun s9 hS9 => ?_
    refine k Z' t' s9 hle (hS9.sub (.refl _) ?_)
    exact .cons _ (.cons _ (.cons _ (.cons _ (.cons _ (.cons _ (.refl _))))))
end
theorem entry_unchain : entryFor table "proto.unchain" = some Builtin.«proto.unchain» := entryFor_of_fast (by kernel_rfl)
theorem plain_unchain : plainId "proto.unchain" = true := by decide +kernel
section
variable {w : World} {s : Shared} {A : Around} {E : Value → Shared → Prop}
/-- an error at hx is being handled; it has no context itself -/
noncomputable def CtxAt (h : Heap) (hx : Addr) : Prop := ∃ o vs, h.get? hx = some o ∧ o.data = .fields vs ∧ vs[2]? = some .none
theorem raiseNew_in {α : Type} {a hx : Addr} {cls : Value} {ws : Array Value} {Q : α → Shared → Prop} (hh : A.handled = some (.ref hx)) (hne : hx ≠ a) (hc : CtxAt s.heap hx) (ha : s.heap.get? a = some { cls := cls, data := .fields ws }) (hw : 2 < ws.size)
    (h : E (.ref a) { s with heap := s.heap.update a (Obj.mapFields (·.setIfInBounds 2 (.ref hx))) }) : wpAny (model PG w) A (raiseNew (.ref a) : Sem α) Q E s := by
  obtain ⟨o, vs, ho, hd, h2⟩ := hc
  unfold raiseNew
  refine wpAny_bind (wpAny_handled ?_)
  rw [hh]
  dsimp only
  rw [if_pos (show ((Value.ref hx != Value.ref a) = true) by simp [hne])]
  refine wpAny_bind (wpAny_holding ?_)
  refine wpAny_runValue (codeAny_builtin entry_unchain ?_)
  rw [Around.under_plainId plain_unchain _]
  unfold Builtin.«proto.unchain»
  refine wpAny_bind (wpAny_field ho hd h2 ?_)
  rw [if_pos (by decide)]
  refine wpAny_pure ?_
  unfold updateField
  refine wpAny_bind (wpAny_bind (wpAny_load ha ?_))
  dsimp only
  rw [if_pos hw]
  exact wpAny_update ha (wpAny_throw h)
theorem ascii_end_in {it hx : Addr} {x : Str} {t : Tok} {i : Nat} {Q : Option Value → Shared → Prop} (hh : A.handled = some (.ref hx)) (hc : CtxAt s.heap hx) (hni : hx ≠ it)
    (hit : s.heap.IsStrIter it "str_ascii_iterator" x t i) (hx' : x.cps[i]? = none)
    (hQ : ∀ h', (∀ b o, b ≠ it → s.heap.get? b = some o → h'.get? b = some o) → Q none { s with heap := h' }) : wpAny (model PG w) A (pyNext (.ref it)) Q E s := by
  obtain ⟨o, ho, hc', hd⟩ := id hit
  unfold pyNext
  refine wpAny_bind (wpAny_attempt (wpAny_callSpecial?_slot (name := Str.ofString "__next__") hit.typeIs F.slot_str_ascii_iterator_next
    (wpAny_call_entry F.slot_str_ascii_iterator_next hit.typeIs F.entry_str_ascii_iterator_next ?_ (F.args_str_ascii_iterator_next_1 _))))
  show wpAny _ _ (field (.ref it) 0 >>= _) _ _ s
  refine wpAny_bind (wpAny_field ho hd (x := .str x t) rfl ?_)
  show wpAny _ _ (field (.ref it) 1 >>= _) _ _ s
  refine wpAny_bind (wpAny_field ho hd (x := .int i 0) rfl ?_)
  simp only [Int.toNat_natCast, hx']
  refine wpAny_bind (wpAny_rule (wpAny_bind (wpAny_setField ho hd (by simp) (wpAny_bind (wpAny_letGo ?_)))))
  show wpAny _ _ (newExc (.type "StopIteration") [] >>= _) _ _ _
  refine wpAny_bind ?_
  simp only [newExc, newTuple]
  refine wpAny_bind (wpAny_newObj_type ?_ (by size_fits))
  refine wpAny_bind (m := firstArgMember _ _) (wpAny_of_eq (a := Value.none) (by first | rfl | (simp only [firstArgMember]; rfl)) ?_)
  refine wpAny_newObj_type ?_ (by size_fits)
  have k1 : ∀ b o', b ≠ it → s.heap.get? b = some o' → (s.heap.update it (Obj.mapFields (·.setIfInBounds 0 .none))).get? b = some o' := fun b o' hb e => (Heap.get?_update_other _ _ (Ne.symm hb)).trans e
  generalize hH : (s.heap.update it (Obj.mapFields _)) = H1 at *
  have k1' : ∀ b o', b ≠ it → s.heap.get? b = some o' → H1.get? b = some o' := fun b o' hb e => by rw [← hH]; exact (Heap.get?_update_other _ _ (Ne.symm hb)).trans e
  obtain ⟨oc, vc, hoc, hdc, h2c⟩ := hc
  have hltx := Heap.lt_size (k1' hx oc hni hoc)
  have hc2 : CtxAt ((H1.push { cls := .type "tuple", data := .seq [].toArray }).push { cls := .type "StopIteration", data := .fields (#[.ref H1.objs.size, .none, .none, .none, .bool false, Value.none] ++ ownMembersOf (.type "StopIteration") []) }) hx :=
    ⟨oc, vc, Heap.get?_push_of_some _ (Heap.get?_push_of_some _ (k1' hx oc hni hoc)), hdc, h2c⟩
  refine raiseNew_in (cls := .type "StopIteration") (hx := hx) hh ?_ hc2 (Heap.get?_push_size _ rfl) (by simp; omega) ?_
  · intro e
    rw [e] at hltx
    rw [Heap.size_push] at hltx
    exact absurd hltx (Nat.not_lt.mpr (Nat.le_succ _))
  refine wpAny_bind (wpAny_isInstance (T := "StopIteration") (b := true) ⟨_, Heap.get?_update_self _ (Heap.get?_push_size _ rfl) rfl, rfl⟩ isSubtype_stop ?_)
  refine wpAny_pure (hQ _ fun b o' hb e => ?_)
  have e1 := k1' b o' hb e
  have hlt := Heap.lt_size e1
  rw [Heap.get?_update_other _ _ (by rw [Heap.size_push]; exact Nat.ne_of_gt (Nat.lt_succ_of_lt hlt))]
  exact Heap.get?_push_of_some _ (Heap.get?_push_of_some _ e1)
end
noncomputable def kStrH (e : Addr) (x : Str) (t : Tok) : ItKind := { kStr x t with side := fun h => CtxAt h e }
theorem itr_strH {w : World} {A : Around} {e : Addr} (hh : A.handled = some (.ref e)) (I : Addr) (hne : e ≠ I) (x : Str) (t : Tok) : Itr w A I (kStrH e x t) where
  item := fun i s Q E io hi hI hJ hs hQ => by
    have hi : i < x.cps.size := hi
    refine wpAny_pyNext_ascii_item (c := x.cps[i]) ⟨io, hI, hJ.1, hJ.2⟩ (by simp [hi]) fun h' hit' hs' => ?_
    obtain ⟨io', e1, e2, e3⟩ := hit'
    exact hQ _ h' (s.toks + 1) io' ⟨_, _, by simp [hi], rfl⟩ e1 ⟨e2, e3⟩ fun b o hb q => hs'.extBut b o hb q
  done := fun s Q E io hI hJ hs hQ => by
    refine ascii_end_in hh hs hne (i := x.cps.size) ⟨io, hI, hJ.1, hJ.2⟩ (by simp) fun h' hk => ?_
    exact hQ h' s.toks hk
  self := fun i s Q E io hI hJ hs hQ => wpAny_pyIter_striter_ascii (i := i) ⟨io, hI, hJ.1, hJ.2⟩ hQ
noncomputable def paTry (P : Params) : Stmt := match bodyAt P 227 with
  | _ :: _ :: _ :: _ :: a :: _ => a
  | _ => .Pass ⟨0, 0, 0, 0⟩
noncomputable def lettersOf (x : List Nat) : List Nat := x.filter fun c => [97, 65, 98, 66].contains c
section
variable {w : World} {c : Ctx0} {G : Array GenState} {Z : Zone} {ns : List (Addr × (Str → Option Value))} {l : List (Addr × Obj)} {s : Shared} {A : Around} {E : Value → Shared → Prop}
theorem callF0 {env : Env} {x : Str} {np pos : Pos} {f : Addr} {Q : Value → Shared → Prop} (hk : keepIn (KF w) (.ref f) = true) (hn : wpAny (model PG w) A (eval (.Name x np) env) (fun g s₁ => g = .ref f ∧ (KF w).In s₁.heap ∧ wpAny (model PG w) A (call (.ref f) []) Q E s₁) E s) :
    wpAny (model PG w) A (eval (.Call (.Name x np) [] [] pos) env) Q E s := by
  refine wpAny_Call_ofName (wpAny_mono hn (fun g s₁ h => ?_) fun _ _ x => x)
  obtain ⟨rfl, h⟩ := h
  exact callWith_of rfl (keeps_K hk) (wpAny_pure h)
/-- a name without a control sign -/
theorem try_plain {L : Addr} {m : Str → Option Value} {nm : List Nat} {tn : Tok} {Q : Flow → Shared → Prop} {st' : Stmt} (hst : st' = paTry w.params) (hr : Rm A 60) (hT : c.T = []) (hS : S w c G Z (((paEnv w L).locals, m) :: ns) l s) (hm : m (Str.ofString "name") = some (.str (mkS nm) tn))
    (hf : Finds0 w 48 (Txt.lower (mkS nm))) (hfit : tooLong (Txt.lower (mkS nm)).length = false)
    (k : ∀ s', S w c G Z (((paEnv w L).locals, m) :: ns) l s' → Q (.ret (.str (mkS nm) tn)) s') : wpAny (model PG w) A (exec st' (paEnv w L)) Q E s := by
  subst hst
  refine wpAny_Try_except ?_
  refine wpAny_execs_cons (wpAny_Return_some ?_)
  refine wpAny_IfExp ?_
  with_reducible refine wpAny_isTrue_Compare1 ?_ (by kernel_rfl)
  with_reducible refine callM (f := 121) ?_
  with_reducible refine callF0 (f := 182) (by kernel_rfl) ?_
  with_reducible refine is_ldg hS.toZ0 (by kernel_rfl) ?_
  refine ⟨hS.kin, ?_⟩
  refine make0 (hr.le (by omega)) hS (fun a ha => by rw [hT] at ha; cases ha) fun x dx hl tk s2 _ _ _ hS2 => ?_
  refine ⟨x, dx, hl, tk, rfl, hS2.kin, hS2.own' (.tail _ (.head _)), hS2.own' (.tail _ (.tail _ (.head _))), ?_⟩
  with_reducible refine argsM (by kernel_rfl) ?_
  with_reducible refine args_one ?_
  with_reducible refine ld hS2 hm ?_
  refine ⟨hS2.kin, ?_⟩
  refine get_all_ok (es := []) (vs := []) (n := 0) (hr.le (by omega)) hS2 (fun a ha => by rw [hT] at ha; cases ha) .nil (by simp) (.tail _ (.head _)) (.tail _ (.tail _ (.head _))) (.head _) hf hfit (fun e h => by cases h) fun D ys n s3 _ hys hS3 => ?_
  with_reducible refine mk_list ?_
  with_reducible refine args_nil ?_
  refine ⟨_, _, _, _, _, hS3, by decide, fun D2 s4 _ hS4 => ?_⟩
  show wpAny _ A (richCompare .Eq _ _) _ _ _
  have hu := hr.ult
  refine rc_strs (hS4.own' (.tail _ (.head _))) (hS4.own' (.head _)) hys .nil (by omega) PG w _ _ ?_
  rw [show decide ((([] : List (Str × Str)).filter fun e => Txt.lower e.1 == Txt.lower (mkS nm)).map (·.2) = []) = true from decide_eq_true rfl]
  refine wpAny_truthy_bool ?_
  rw [if_pos rfl]
  with_reducible refine ld hS4 hm ?_
  exact k s4 (hS4.sub (.refl _) (.cons _ (.cons _ (.cons _ (.cons _ (.cons _ (.refl _)))))))
theorem unbind_top {env : Env} {t : Str → Option Value} {x : Str} {v : Value} {Q : Unit → Shared → Prop} (hl : env.kindOf x = some .local) (hp : (env.scope.kind == .class || (env.scope.kind == .module && env.locals != env.globals)) = false)
    (hS : S w c G Z ((env.locals, fun y => if y = x then some v else t y) :: ns) l s) (k : ∀ m' s', S w c G Z ((env.locals, m') :: ns) l s' → Q () s') : wpAny (model PG w) A (unbindName env x) Q E s :=
  wpAny_unbindName_local (m := fun y => if y = x then some v else t y) (v := v) hl (hS.nss _ (.head _)) (if_pos rfl) hp fun _ _ hn hs => k _ _ (hS.nsSet hn hs)
theorem in_letters (x : Nat) (hx : x < 128) : Txt.contains (Str.ofString "aAbB") ⟨#[x]⟩ = [97, 65, 98, 66].contains x := by
  have : ∀ x < 128, Txt.contains (Str.ofString "aAbB") ⟨#[x]⟩ = [97, 65, 98, 66].contains x := by decide +kernel
  exact this x hx
theorem try_raise {L : Addr} {m : Str → Option Value} {nm : List Nat} {tn : Tok} {fs : List Env} {Q : Flow → Shared → Prop} {st' : Stmt} (hst : st' = paTry w.params) (hr : Rm A 60) (hT : c.T = []) (hfs : A.frames = some (paEnv w L :: fs)) (hfn : FrOk (paEnv w L :: fs) (((paEnv w L).locals, m) :: ns))
    (hS : S w c G Z (((paEnv w L).locals, m) :: ns) l s) (hm : m (Str.ofString "name") = some (.str (mkS nm) tn)) (hasc : nm.all (· < 128) = true) (hlen : nm.length ≤ 1000)
    (hf : Finds1 w 48 (Txt.lower (mkS nm))) (hfit : tooLong (Txt.lower (mkS nm)).length = false)
    (k : ∀ m' t s', S w c G Z (((paEnv w L).locals, m') :: ns) l s' → Q (.ret (.str (mkS (lettersOf nm)) t)) s') : wpAny (model PG w) A (exec st' (paEnv w L)) Q E s := by
  subst hst
  refine wpAny_Try_except ?_
  refine wpAny_execs_cons (wpAny_Return_some ?_)
  refine wpAny_IfExp ?_
  with_reducible refine wpAny_isTrue_Compare1 ?_ (by kernel_rfl)
  with_reducible refine callM (f := 121) ?_
  with_reducible refine callF0 (f := 182) (by kernel_rfl) ?_
  with_reducible refine is_ldg hS.toZ0 (by kernel_rfl) ?_
  refine ⟨hS.kin, ?_⟩
  refine make0 (hr.le (by omega)) hS (fun a ha => by rw [hT] at ha; cases ha) fun x dx hl tk s2 _ _ _ hS2 => ?_
  refine ⟨x, dx, hl, tk, rfl, hS2.kin, hS2.own' (.tail _ (.head _)), hS2.own' (.tail _ (.tail _ (.head _))), ?_⟩
  with_reducible refine argsM (by kernel_rfl) ?_
  with_reducible refine args_one ?_
  with_reducible refine ld hS2 hm ?_
  refine ⟨hS2.kin, ?_⟩
  refine get_all_raise (fs := paEnv w L :: fs) (hr.le (by omega)) hT hS2 hfs hfn (.tail _ (.head _)) (.tail _ (.tail _ (.head _))) hf hfit fun e tm s3 hfly => ?_
  have hfly := hfly.sub (l' := l) (.cons _ (.cons _ (.cons _ (.refl _))))
  refine hfly.note hT hfs hfn rfl fun t T tbo ts s4 hd hz h3 hS4 => ?_
  refine flight_step hS4 hd hz fun tbo2 ts2 s5 hd2 hz2 _ hS5 => ?_
  refine wpAny_handleBy_builtin_as (X := "ValueError") (T := "ValueError") (b := true) (by rw [isSubtype_type]; kernel_rfl) (by kernel_rfl) (by rw [isSubtype_type]; kernel_rfl) ?_
  refine ldb hS5.toZ0 (v := .type "ValueError") (by kernel_rfl) (by kernel_rfl) ?_
  refine ⟨rfl, ⟨_, hS5.own' (.head _), rfl⟩, ?_⟩
  rw [if_pos rfl]
  refine flight_step hS5 hd2 hz2 fun tbo3 ts3 s6 hd3 hz3 _ hS6 => ?_
  refine st hS6 fun s7 hS7 => ?_
  have hu := hr.ult
  have hh : (A.mark (some (.ref e))).handled = some (.ref e) := rfl
  refine wpAny_execs_cons (wpAny_Assign_Name ?_)
  with_reducible refine wpAny_Compare1 ?_ (by kernel_rfl)
  with_reducible refine callT (T := "str") ?_
  with_reducible refine is_ldb hS7.toZ0 (by kernel_rfl) (by kernel_rfl) ?_
  with_reducible refine args_one ?_
  with_reducible refine ld hS7 (v := .ref e) ?_ ?_
  · walk_at "lk"
  refine P.str_of_exc_one F.excStr_ValueError (t0 := t) (m := ctlMsg) (tk := tm) (by show A.units + 2 < _; omega) ⟨_, _, hS7.own' (.head _), rfl, rfl, rfl⟩ ⟨_, _, hS7.own' (.tail _ (.tail _ (.head _))), rfl, rfl⟩ ?_
  with_reducible refine con_str hS7 fun t8 s8 hS8 => ?_
  refine PyProof.Rows.eq_str ?_
  rw [show (ctlMsg == Str.ofString "Control characters not allowed in headers") = true from by decide +kernel]
  refine st hS8 fun s9 hS9 => ?_
  refine wpAny_execs_cons (wpAny_Return_some ?_)
  refine wpAny_IfExp ?_
  with_reducible refine isTrue_plain ?_ (by kernel_rfl)
  with_reducible refine ld hS9 (v := .bool true) ?_ ?_
  · walk_at "lk"
  refine wpAny_truthy_bool ?_
  rw [if_pos rfl]
  with_reducible refine callS F.slot_str_join F.type_str_join ?_
  with_reducible refine con_str hS9 fun t10 s10 hS10 => ?_
  refine ⟨_, _, rfl, ?_⟩
  refine comp (cl := []) ?_
  with_reducible refine ld hS10 (v := .str (mkS nm) tn) ?_ ?_
  · walk_at "lk"
  refine iter_str hS10 (mkS_all _ hasc) fun I io s11 hJ hIc hS11 => ?_
  have hne : e ≠ I := by
    have := (List.nodup_append.mp hS11.nd).2.1
    simp only [List.map_cons, List.nodup_cons, List.mem_cons, not_or] at this
    exact fun q => this.1.1 q.symm
  refine ⟨c, G, Z, _, ns, _, I, io, kStrH e (mkS nm) tn, fun i ys Z' => StrsV ys (((nm.take i).filter fun c => [97, 65, 98, 66].contains c).map fun c => mkS [c]) ∧ Z' = Z, rfl, itr_strH hh I hne _ _, hJ, by show (mkS nm).cps.size ≤ 10000; simp [mkS]; omega, hS11, (fun a ha => by rw [hT] at ha; cases ha), ⟨.nil, rfl⟩, fun Z' ns' a b s' hS' _ => ⟨_, _, hS'.own' (.tail _ (.tail _ (.head _))), rfl, rfl⟩, ?_, ?_⟩
  · intro C D2 i v ys Z' m' k' io' s12 E' hi hP hJ' hI hle hS12
    obtain ⟨hI, rfl⟩ := hI
    obtain ⟨ch, tc, hch, rfl⟩ := hP
    have hch : nm[i]? = some ch := by simpa [mkS] using hch
    have hcl : ch < 128 := by have := List.all_eq_true.mp hasc ch (List.mem_of_getElem? hch); simpa using this
    have hstep := filter_step (p := fun c => [97, 65, 98, 66].contains c) (f := fun c => mkS [c]) hch
    refine wpAny_pure ?_
    refine wpAny_assign_Name (st hS12 fun s13 hS13 => ?_)
    rw [List.forIn_cons]
    simp only [if_true]
    with_reducible refine wpAny_bind ?_
    with_reducible refine wpAny_bind ?_
    with_reducible refine wpAny_isTrue_Compare1 ?_ (by kernel_rfl)
    with_reducible refine ld hS13 (v := .str ⟨#[ch]⟩ tc) ?_ ?_
    · walk_at "lk"
    with_reducible refine con_str hS13 fun t14 s14 hS14 => ?_
    refine in_str ?_
    refine wpAny_truthy_bool (wpAny_pure ?_)
    refine wpAny_pure ?_
    rw [show (!(occurrences (Str.ofString "aAbB") ⟨#[ch]⟩ 0 (Str.ofString "aAbB").length 1).isEmpty) = [97, 65, 98, 66].contains ch from in_letters ch hcl]
    by_cases q : [97, 65, 98, 66].contains ch = true
    · rw [if_pos q] at hstep ⊢
      with_reducible refine ld hS14 (v := .str ⟨#[ch]⟩ tc) ?_ ?_
      · walk_at "lk"
      refine ⟨Z', _, .refl _, hS14, ?_, rfl⟩
      rw [hstep]
      exact hI.snoc _ _
    · rw [if_neg q] at hstep ⊢
      refine ⟨Z', _, .refl _, hS14, ?_, rfl⟩
      rw [hstep, List.append_nil]
      exact hI
  · intro D3 ys Z' kn2 s12 hD hI hle hS12
    obtain ⟨hI, rfl⟩ := hI
    have en : (kStrH e (mkS nm) tn).n = nm.length := by show (mkS nm).cps.size = _; simp [mkS]
    rw [en, List.take_length] at hI
    obtain ⟨lst, rfl, el⟩ := hI.lst
    have em : ((nm.filter fun c => [97, 65, 98, 66].contains c).map fun c => mkS [c]) = ((nm.filter fun c => [97, 65, 98, 66].contains c).map fun c => [c]).map mkS := by rw [List.map_map]; rfl
    rw [em] at el
    rw [show Str.ofString "" = (⟨#[]⟩ : Str) from by decide +kernel]
    refine SC.join (isList_of (hS12.own' (.head _))) el (join_ok _ (fun y hy => ?_) ?_) fun t' kk => ?_
    · obtain ⟨u, _, rfl⟩ := List.mem_map.mp hy
      show (1 : Nat) ≤ 1000; omega
    · rw [List.length_map]
      have := List.length_filter_le (fun c => [97, 65, 98, 66].contains c) nm; omega
    rw [txt_join_flat]
    have ef : (((nm.filter fun c => [97, 65, 98, 66].contains c).map fun c => [c]).flatten) = lettersOf nm := by
      unfold lettersOf
      rw [← List.flatMap_def]; simp
    rw [ef]
    have hS13 := hS12.toks kk
    have hS14 := hS13.sub (l' := l) (.refl _) (.cons _ (.cons _ (.cons _ (.cons _ (.refl _)))))
    refine wpAny_bind (wpAny_bindName ?_)
    refine st hS14 fun s15 hS15 => ?_
    unfold unbindBehindTheSuite
    refine wpAny_onRaise ?_
    refine unbind_top (by kernel_rfl) (by kernel_rfl) hS15 fun m'' s16 hS16 => ?_
    exact k _ t' _ hS16
end
/-- a call of _law_parsed gives this tree -/
noncomputable def ParsedAt (w : World) (n : Nat) (x : List Nat) (f : Fm) : Prop :=
  ∀ (A : Around) (c : Ctx0) (G : Array GenState) (Z : Zone) (ns : List (Addr × (Str → Option Value))) (l : List (Addr × Obj)) (s : Shared) (E Q : Value → Shared → Prop) (fs : List Env) (t : Tok),
    Rm A n → c.T = [] → A.frames = some fs → FrOk fs ns → S w c G Z ns l s →
    (∀ v Z' G' s', Z.le Z' → TreeAt Z' v f → S w c G' Z' ns l s' → Q v s') → wpAny (model PG w) A (call (.ref 227) [.str (mkS x) t]) Q E s
noncomputable def paThen (P : Params) : List Stmt := match paIf P with
  | .If _ b _ _ => b
  | _ => []
noncomputable def frontOf (x : List Nat) (p : Nat) : List Nat := if x.head? = some 40 then (x.drop 1).take (p - 1 - 1) else x.take p
section
variable {w : World} {c : Ctx0} {G : Array GenState} {Z : Zone} {ns : List (Addr × (Str → Option Value))} {l : List (Addr × Obj)} {s : Shared} {A : Around} {E : Value → Shared → Prop}
inductive slS3 (w : World) (Q : Value → Shared → Prop) (o x y : Value) (s₃ : Shared) : Prop
  | mk (x' : Str) (t : Tok) (lo hi : Option (Int × Tok)) (h1 : o = .str x' t) (h2 : x = partV lo) (h3 : y = partV hi) (c : Ctx0) (G : Array GenState) (Z : Zone) (r : List (Addr × (Str → Option Value))) (l : List (Addr × Obj)) (hS : S w c G Z r l s₃) (hl : x'.length ≤ sizeLine)
      (k : ∀ t' s', S w c G Z r l s' → Q (.str (Txt.slice x' (lo.map (·.1)) (hi.map (·.1))) t') s') : slS3 w Q o x y s₃
noncomputable abbrev slS2 (w : World) (A : Around) (E : Value → Shared → Prop) (env : Env) (upper : Option PySem.Expr) (Q : Value → Shared → Prop) (o : Value) : Value → Shared → Prop := fun x s₂ => wpAny (model PG w) A (evalPart upper env) (slS3 w Q o x) E s₂
noncomputable abbrev slS1 (w : World) (A : Around) (E : Value → Shared → Prop) (env : Env) (lower upper : Option PySem.Expr) (Q : Value → Shared → Prop) : Value → Shared → Prop := fun o s₁ => wpAny (model PG w) A (evalPart lower env) (slS2 w A E env upper Q o) E s₁
/-- x[lo:hi] of a text, all told at the end -/
theorem sl_strE {env : Env} {pos : Pos} {value : PySem.Expr} {lower upper : Option PySem.Expr} {p : Pos} {Q : Value → Shared → Prop}
    (hq : wpAny (model PG w) A (eval value env) (slS1 w A E env lower upper Q) E s) :
    wpAny (model PG w) A (eval (.Subscript value (.Slice lower upper none p) pos) env) Q E s := by
  refine sub_slice (T := "str") F.slot_str_getitem.lookup (wpAny_mono hq (fun o s₁ h₁ => ?_) fun _ _ x => x)
  refine wpAny_Slice (wpAny_mono h₁ (fun x s₂ h₂ => ?_) fun _ _ x => x)
  refine wpAny_mono h₂ (fun y s₃ h₃ => ?_) fun _ _ x => x
  obtain ⟨x', t, lo, hi, rfl, rfl, rfl, c, G, Z, r, l, hS, hsz, hQ⟩ := h₃
  refine wpAny_pure ⟨typeIs_str _ _ _, wpAny_getItem_str_slice (l := lo) (u := hi) (st := none) ⟨_, Heap.get?_push_size _ rfl, rfl, ?_⟩ rfl ?_⟩
  · cases lo with
    | none => cases hi with
      | none => rfl
      | some v => rfl
    | some u => cases hi with
      | none => rfl
      | some v => rfl
  · have h1 := hS.heapK (h' := s₃.heap.push { cls := .type "slice", data := .fields #[partV lo, partV hi, .none] }) fun b o' e => Heap.get?_push_of_some _ e
    exact post_val_or_str ⟨Nat.le_trans (Txt.slice_le x' _ _) hsz, fun t' k => hQ t' _ (h1.toks _)⟩
/-- front = .. -/
theorem pa_front {L : Addr} {m : Str → Option Value} {x : List Nat} {p : Nat} {tx tp : Tok} {Q : Flow → Shared → Prop} {st' : Stmt} (hbd : some st' = (paThen w.params).head?) (hx0 : x ≠ []) (hasc : x.all (· < 128) = true) (hxl : x.length ≤ 900) (hp : 1 ≤ p)
    (hS : S w c G Z (((paEnv w L).locals, m) :: ns) l s) (hmt : m (Str.ofString "text") = some (.str (mkS x) tx)) (hmp : m (Str.ofString "place") = some (.int (p : Nat) tp))
    (k : ∀ t s', S w c G Z (((paEnv w L).locals, fun y => if y = Str.ofString "front" then some (.str (mkS (frontOf x p)) t) else m y) :: ns) l s' → Q .next s') : wpAny (model PG w) A (exec st' (paEnv w L)) Q E s := by
  obtain rfl : st' = ((paThen w.params).head?).getD (.Pass ⟨0, 0, 0, 0⟩) := by rw [← hbd]; rfl
  clear hbd
  obtain ⟨h, xs, rfl⟩ : ∃ h xs, x = h :: xs := by cases x with | nil => exact absurd rfl hx0 | cons h xs => exact ⟨h, xs, rfl⟩
  refine wpAny_Assign_Name ?_
  refine wpAny_IfExp ?_
  with_reducible refine wpAny_isTrue_Compare1 ?_ (by kernel_rfl)
  with_reducible refine Subscript_ ?_
  with_reducible refine ld hS hmt ?_
  with_reducible refine con_int hS fun t1 s1 hS1 => ?_
  refine tail_any (T := "str") (ops := [.str (mkS (h :: xs)) tx, .int 0 t1]) (typeIs_str _ _ _) F.slot_str_getitem.lookup (PyProof.Rows.getItem_str (c := h) (by decide) ?_ ?_) (by kernel_rfl)
  · have e : seqIndex? 0 (mkS (h :: xs)).length = some 0 := by
      rw [mkS_len]; unfold seqIndex?; simp
    rw [e]; rfl
  have hS2 := hS1.toks (s1.toks + 1)
  with_reducible refine con_str hS2 fun t3 s3 hS3 => ?_
  refine PyProof.Rows.eq_str (wpAny_truthy_bool ?_)
  have eb : ((⟨#[h]⟩ : Str) == Str.ofString "(") = decide (h = 40) := by
    rw [show Str.ofString "(" = (⟨#[40]⟩ : Str) from by decide +kernel, Bool.eq_iff_iff, beq_iff_eq, decide_eq_true_iff]
    constructor
    · intro q
      have : #[h] = #[40] := congrArg Str.cps q
      simpa using this
    · rintro rfl; rfl
  rw [eb]
  have hsl : (mkS (h :: xs)).length ≤ sizeLine := by rw [mkS_len, sizeLine_eq]; omega
  by_cases h40 : h = 40
  · rw [decide_eq_true h40, if_pos rfl]
    with_reducible refine sl_strE ?_
    with_reducible refine ld hS3 hmt ?_
    refine part_some ?_
    with_reducible refine con_int hS3 fun t4 s4 hS4 => ?_
    refine part_some ?_
    with_reducible refine wpAny_BinOp ?_
    with_reducible refine ld hS4 hmp ?_
    with_reducible refine con_int hS4 fun t5 s5 hS5 => ?_
    refine sub_int ?_
    rw [show ((p : Nat) : Int) - 1 = ((p - 1 : Nat) : Int) by omega]
    refine ⟨_, _, some (((1 : Nat) : Int), t4), some (((p - 1 : Nat) : Int), s5.toks), rfl, rfl, rfl, c, G, Z, _, _, hS5.toks _, hsl, fun t9 s9 hS9 => ?_⟩
    have esl : Txt.slice (mkS (h :: xs)) (Option.map (·.1) (some (((1 : Nat) : Int), t4))) (Option.map (·.1) (some (((p - 1 : Nat) : Int), s5.toks))) = mkS (frontOf (h :: xs) p) := by
      show Txt.slice (mkS (h :: xs)) (some ((1 : Nat) : Int)) (some ((p - 1 : Nat) : Int)) = _
      rw [slice_nat, mkS_list]
      unfold frontOf
      rw [if_pos (by simpa using h40)]; rfl
    rw [esl]
    exact st hS9 fun s10 hS10 => k t9 s10 hS10
  · rw [decide_eq_false h40, if_neg (by decide)]
    with_reducible refine sl_str (mkS (h :: xs)) tx none (some ((p : Nat), tp)) ?_
    with_reducible refine ld hS3 hmt ?_
    refine ⟨rfl, part_none ⟨rfl, part_some (ld hS3 hmp ⟨rfl, c, G, Z, _, _, hS3, hsl, fun t9 s9 hS9 => ?_⟩)⟩⟩
    have esl : Txt.slice (mkS (h :: xs)) (Option.map (·.1) (none : Option (Int × Tok))) (Option.map (·.1) (some (((p : Nat) : Int), tp))) = mkS (frontOf (h :: xs) p) := by
      show Txt.slice (mkS (h :: xs)) none (some ((p : Nat) : Int)) = _
      rw [slice_to, mkS_list]
      unfold frontOf
      rw [if_neg (by simpa using h40)]; rfl
    rw [esl]
    exact st hS9 fun s10 hS10 => k t9 s10 hS10
theorem FrOk.cons {fs : List Env} {L : Addr} {m : Str → Option Value} (h : FrOk fs ns) : FrOk (paEnv w L :: fs) (((paEnv w L).locals, m) :: ns) := by
  intro e he
  rcases List.mem_cons.mp he with rfl | he
  · exact ⟨by show ScopeKind.function ≠ _; decide, _, .head _, rfl⟩
  · obtain ⟨q1, L', hL', q2⟩ := h e he
    exact ⟨q1, L', .tail _ hL', q2⟩
theorem FrOk.to {fs : List Env} {L : Addr} {m m' : Str → Option Value} (h : FrOk fs ((L, m) :: ns)) : FrOk fs ((L, m') :: ns) := h
/-- the text is cut -/
theorem pa_cut {L : Addr} {m : Str → Option Value} {x : List Nat} {p n : Nat} {tx tp : Tok} {fl fr : Fm} {fs : List Env} {Q : Flow → Shared → Prop} {body : List Stmt} (hbd : body = paThen w.params) (hr : Rm A n) (hT : c.T = []) (hfs : A.frames = some fs) (hfn : FrOk fs (((paEnv w L).locals, m) :: ns)) (hx0 : x ≠ []) (hasc : x.all (· < 128) = true) (hxl : x.length ≤ 900) (hp : 1 ≤ p)
    (h1 : ParsedAt w n (frontOf x p) fl) (h2 : ParsedAt w n (x.drop (p + 2)) fr)
    (hS : S w c G Z (((paEnv w L).locals, m) :: ns) l s) (hmt : m (Str.ofString "text") = some (.str (mkS x) tx)) (hmp : m (Str.ofString "place") = some (.int (p : Nat) tp))
    (k : ∀ v m' Z' G' s', Z.le Z' → TreeAt Z' v (.node fl fr) → S w c G' Z' (((paEnv w L).locals, m') :: ns) l s' → Q (.ret v) s') : wpAny (model PG w) A (execs body (paEnv w L)) Q E s := by
  subst hbd
  refine wpAny_execs_cons ?_
  refine pa_front (by kernel_rfl) hx0 hasc hxl hp hS hmt hmp fun t1 s1 hS1 => ?_
  refine wpAny_execs_cons (wpAny_Return_some ?_)
  with_reducible refine mk_list ?_
  with_reducible refine args_cons ?_
  with_reducible refine callF (f := 227) (by kernel_rfl) ?_
  with_reducible refine is_ldg hS1.toZ0 (by kernel_rfl) ?_
  with_reducible refine args_one ?_
  with_reducible refine ld hS1 (v := .str (mkS (frontOf x p)) t1) ?_ ?_
  · walk_at "lk"
  refine ⟨hS1.kin, ?_⟩
  refine h1 _ _ _ _ _ _ _ _ _ fs t1 hr hT hfs hfn.to hS1 fun v1 Z1 G1 s2 hle1 hv1 hS2 => ?_
  with_reducible refine args_one ?_
  with_reducible refine callF (f := 227) (by kernel_rfl) ?_
  with_reducible refine is_ldg hS2.toZ0 (by kernel_rfl) ?_
  with_reducible refine args_one ?_
  with_reducible refine sl_strE ?_
  with_reducible refine ld hS2 (v := .str (mkS x) tx) ?_ ?_
  · walk_at "lk"
  refine part_some ?_
  with_reducible refine wpAny_BinOp ?_
  with_reducible refine ld hS2 (v := .int (p : Nat) tp) ?_ ?_
  · walk_at "lk"
  with_reducible refine con_int hS2 fun t3 s3 hS3 => ?_
  refine add_int ?_
  refine part_none ?_
  rw [show ((p : Nat) : Int) + 2 = ((p + 2 : Nat) : Int) by omega]
  refine ⟨_, _, some (((p + 2 : Nat) : Int), s3.toks), none, rfl, rfl, rfl, c, G1, Z1, _, _, hS3.toks _, by rw [mkS_len, sizeLine_eq]; omega, fun t9 s9 hS9 => ?_⟩
  have esl : Txt.slice (mkS x) (Option.map (·.1) (some (((p + 2 : Nat) : Int), s3.toks))) (Option.map (·.1) (none : Option (Int × Tok))) = mkS (x.drop (p + 2)) := by
    show Txt.slice (mkS x) (some ((p + 2 : Nat) : Int)) none = _
    rw [slice_from, mkS_list]; rfl
  rw [esl]
  refine ⟨hS9.kin, ?_⟩
  refine h2 _ _ _ _ _ _ _ _ _ fs t9 hr hT hfs hfn.to hS9 fun v2 Z2 G2 s10 hle2 hv2 hS10 => ?_
  refine ⟨c, G2, Z2, _, _, hS10, by show 2 ≤ sizeLine; rw [sizeLine_eq]; decide, fun D s11 hD hS11 => ?_⟩
  have hS12 := hS11.freeze hD
  have hle3 : Z2.le (Z2.put D (W.listOf [v1, v2].toArray 0)) := Zone.put_le _ (hS11.zo D (List.mem_append_right _ (.head _)))
  exact k (.ref D) _ _ G2 s11 ((hle1.trans hle2).trans hle3) (.node (n := 0) Zone.put_self ((hv1.mono hle2).mono hle3) (hv2.mono hle3)) hS12
end
noncomputable def LeafOK (w : World) (nm r : List Nat) : Prop :=
  nm.all (· < 128) = true ∧ nm.length ≤ 1000 ∧ tooLong (Txt.lower (mkS nm)).length = false ∧ ((Finds0 w 48 (Txt.lower (mkS nm)) ∧ r = nm) ∨ (Finds1 w 48 (Txt.lower (mkS nm)) ∧ r = lettersOf nm))
/-- how _law_parsed reads a text -/
inductive ParseOK (w : World) : Nat → List Nat → Fm → Prop
  | leaf {d : Nat} {x : List Nat} {us : List (Nat × List Nat)} {r : List Nat} : TextOK x us → (∀ k, 1 ≤ k → k < us.length → cutAt x us k = false) → LeafOK w (nameOfU us) r → ParseOK w d x (.leaf (mkS r))
  | node {d : Nat} {x : List Nat} {us : List (Nat × List Nat)} {j : Nat} {fl fr : Fm} : TextOK x us → x ≠ [] → 1 ≤ j → j < us.length → cutAt x us j = true → (∀ k, 1 ≤ k → k < j → cutAt x us k = false) → 1 ≤ (unitAt us (j - 1)).1 →
      ParseOK w d (frontOf x (unitAt us (j - 1)).1) fl → ParseOK w d (x.drop ((unitAt us (j - 1)).1 + 2)) fr → ParseOK w (d + 1) x (.node fl fr)
section
variable {w : World} {c : Ctx0} {G : Array GenState} {Z : Zone} {ns : List (Addr × (Str → Option Value))} {l : List (Addr × Obj)} {s : Shared} {A : Around} {E : Value → Shared → Prop}
/-- iter(range(1, n)) -/
theorem iter_range2 {n : Nat} {t u : Tok} {Q : Value → Shared → Prop} (h : S w c G Z ns l s) (hn : n ≤ 10000)
    (k : ∀ r ro s1, S w c G Z ns ((r, ro) :: l) s1 → (∀ (Q' : Value → Shared → Prop) (E' : Value → Shared → Prop) s2 l2 ns2 Z2 G2, S w c G2 Z2 ns2 l2 s2 → (r, ro) ∈ l2 → (∀ I io s', (kRange 1 (n - 1)).J 0 io → c.sc.heap.get? I = none → S w c G2 Z2 ns2 ((I, io) :: l2) s' → Q' (.ref I) s') → wpAny (model PG w) A (pyIter (.ref r)) Q' E' s2) → Q (.ref r) s1) :
    wpAny (model PG w) A (call (.type "range") [.int 1 t, .int n u]) Q E s := by
  refine call_range_2 ?_
  refine k _ (rangeO 1 n 1 t u s.toks) _ ((h.push _ rfl).toks _) ?_
  intro Q' E' s2 l2 ns2 Z2 G2 h2 hm hq
  refine wpAny_pyIter_range (h2.own' hm) (small_one (by omega) (by omega) (by omega) (by omega)) ?_
  refine hq _ _ _ ?_ h2.new (h2.push _ rfl)
  have hsz : Builtin.Range.rangeSize 1 (n : Int) 1 = ((n - 1 : Nat) : Int) := by rw [rangeSize_one]; split <;> omega
  show _ = _
  rw [hsz]
  simp
/-- the search for the arrow -/
theorem pa_for {L D : Addr} {m : Str → Option Value} {vs : List Value} {n k0 : Nat} {x : List Nat} {us : List (Nat × List Nat)} {tx : Tok} {fs : List Env} {o : Option (Fm × Fm)} {Q : Flow → Shared → Prop} {st' : Stmt} (hst : st' = paFor w.params) (hr : Rm A (n + 40)) (hT : c.T = []) (hX : TextOK x us) (hx0 : o ≠ none → x ≠ [])
    (hfs : A.frames = some fs) (hfn : FrOk fs (((paEnv w L).locals, m) :: ns))
    (ho : ∀ k, 1 ≤ k → k < us.length → (∀ k', 1 ≤ k' → k' < k → cutAt x us k' = false) → cutAt x us k = true → ∃ fl fr, o = some (fl, fr) ∧ 1 ≤ (unitAt us (k - 1)).1 ∧ ParsedAt w n (frontOf x (unitAt us (k - 1)).1) fl ∧ ParsedAt w n (x.drop ((unitAt us (k - 1)).1 + 2)) fr)
    (hS : S w c G Z (((paEnv w L).locals, m) :: ns) ((L + 1, cellO (some (.ref D))) :: (D, W.listOf vs.toArray k0) :: l) s) (hus : UnitsAt Z vs us) (hmt : m (Str.ofString "text") = some (.str (mkS x) tx))
    (kE : ∀ m' Z' G' s', Z.le Z' → (∀ k, 1 ≤ k → k < us.length → cutAt x us k = false) → m' (Str.ofString "text") = some (.str (mkS x) tx) → S w c G' Z' (((paEnv w L).locals, m') :: ns) ((L + 1, cellO (some (.ref D))) :: (D, W.listOf vs.toArray k0) :: l) s' → Q .next s')
    (kR : ∀ fl fr v m' Z' G' s', o = some (fl, fr) → Z.le Z' → TreeAt Z' v (.node fl fr) → S w c G' Z' (((paEnv w L).locals, m') :: ns) l s' → Q (.ret v) s') :
    wpAny (model PG w) A (exec st' (paEnv w L)) Q E s := by
  subst hst
  have hvl : vs.length = us.length := hus.length
  have hul := hX.ulen
  refine wpAny_For ?_ (fun _ => rfl)
  with_reducible refine callT (T := "range") ?_
  with_reducible refine is_ldb hS.toZ0 (by kernel_rfl) (by kernel_rfl) ?_
  with_reducible refine args_cons ?_
  with_reducible refine con_int hS fun t1 s1 hS1 => ?_
  with_reducible refine args_one ?_
  with_reducible refine callB (id := "len") ?_
  with_reducible refine is_ldb hS1.toZ0 (by kernel_rfl) (by kernel_rfl) ?_
  with_reducible refine args_one ?_
  with_reducible refine ldc hS1 (a := L + 1) (v := .ref D) (List.Mem.head _) ?_
  have hD1 := hS1.own' (.tail _ (.head _))
  have hsz : vs.toArray.size ≤ 1000 := by rw [List.size_toArray]; omega
  with_reducible refine len_ok hS1 hD1 hsz fun t2 s2 hS2 => ?_
  rw [show vs.toArray.size = us.length by rw [List.size_toArray, hvl]]
  with_reducible refine iter_range2 hS2 (by omega) fun r ro s3 hS3 hIt => ?_
  refine hIt _ _ _ _ _ _ _ hS3 (.head _) fun I io s4 hJ hIc hS4 => ?_
  refine codeAny_forLoop_any (fun k' s' => ∃ (i : Nat) (m' : Str → Option Value) (io : Obj) (Z'' : Zone) (G'' : Array GenState), k' = (us.length - 1) - i ∧ i ≤ us.length - 1 ∧ (kRange 1 (us.length - 1)).J i io ∧ Z.le Z'' ∧ S w c G'' Z'' (((paEnv w L).locals, m') :: ns) ((I, io) :: (r, ro) :: (L + 1, cellO (some (.ref D))) :: (D, W.listOf vs.toArray k0) :: l) s' ∧
    m' (Str.ofString "text") = some (.str (mkS x) tx) ∧ ∀ k, 1 ≤ k → k < i + 1 → cutAt x us k = false) ?_ _ ⟨0, m, io, Z, G, rfl, Nat.zero_le _, hJ, .refl _, hS4, hmt, fun k h1 h2 => by omega⟩
  rintro k' s' ⟨i, m', io', Z'', G'', rfl, hi, hJ', hle', hS', hmt', hno⟩
  refine next_it (itr_range hr.handled I 1 (us.length - 1)) hS' hJ' hi trivial (fun a ha => by rw [hT] at ha; cases ha) ?_ ?_
  · rintro rfl s5 hS5
    refine wpAny_execs_nil ?_
    exact kE m' Z'' G'' s5 hle' (fun k h1 h2 => hno k h1 (by show k < us.length - 1 + 1; omega)) hmt' (hS5.sub (.refl _) (.cons _ (.refl _)))
  · intro hlt v io2 s5 hP hJ2 hS5
    obtain ⟨ti, rfl⟩ := hP
    have hlt : i < us.length - 1 := hlt
    have hiv : (1 : Int) + (i : Int) * 1 = ((i + 1 : Nat) : Int) := by omega
    rw [hiv]
    refine wpAny_pure ?_
    refine wpAny_assign_Name (st hS5 fun s6 hS6 => ?_)
    refine wpAny_execs_cons ?_
    refine pa_place (us := us) (k := i + 1) (n := k0) (vs := vs) (D := D) (by kernel_rfl) hS6 (.tail _ (.tail _ (.head _))) (.tail _ (.tail _ (.tail _ (.head _)))) (hus.mono hle') (by omega) (by omega) (by omega) put fun tp s7 hS7 => ?_
    refine wpAny_execs_cons ?_
    refine wpAny_If ?_
    refine pa_test (us := us) (x := x) (k := i + 1) (n := k0) (vs := vs) (D := D) (by kernel_rfl) (hr.le (by omega)) hT hX hS7 (.tail _ (.tail _ (.head _))) (.tail _ (.tail _ (.tail _ (.head _)))) (hus.mono hle') (by omega) (by omega) (by walk_at "lk") (by walk_at "lk") (by walk_at "lk") fun G3 Z3 s8 hle3 hS8 => ?_
    by_cases hc : cutAt x us (i + 1) = true
    · rw [if_pos hc]
      obtain ⟨fl, fr, e, hp1, h1, h2⟩ := ho (i + 1) (by omega) (by omega) (fun k' a b => hno k' a b) hc
      refine pa_cut (x := x) (p := (unitAt us (i + 1 - 1)).1) (n := n) (fs := fs) (by kernel_rfl) (hr.le (by omega)) hT hfs hfn.to (hx0 (by rw [e]; exact fun q => nomatch q)) hX.asc hX.len hp1 h1 h2 hS8 (by walk_at "lk") (by walk_at "lk") fun v m3 Z4 G4 s9 hle4 hv hS9 => ?_
      exact kR fl fr v m3 Z4 G4 s9 e ((hle'.trans hle3).trans hle4) hv (hS9.sub (.refl _) (.cons _ (.cons _ (.cons _ (.cons _ (.refl _))))))
    · have hc' : cutAt x us (i + 1) = false := by simpa using hc
      rw [if_neg hc]
      refine wpAny_execs_nil (wpAny_execs_nil ?_)
      refine ⟨us.length - 1 - (i + 1), by omega, i + 1, _, io2, Z3, G3, rfl, hlt, hJ2, hle'.trans hle3, hS8, by walk_at "lk", fun k a b => ?_⟩
      by_cases q : k = i + 1
      · rw [q]; exact hc'
      · exact hno k a (by omega)
end
noncomputable def paUnits (P : Params) : Stmt := match bodyAt P 227 with
  | a :: _ => a
  | _ => .Pass ⟨0, 0, 0, 0⟩
theorem pa_parts (w : World) : bodyAt w.params 227 = [paUnits w.params, paFor w.params, paKinds w.params, paName w.params, paTry w.params] := by kernel_rfl
section
variable {w : World} {c : Ctx0} {G : Array GenState} {Z : Zone} {ns : List (Addr × (Str → Option Value))} {l : List (Addr × Obj)} {s : Shared} {A : Around} {E : Value → Shared → Prop}
/-- units = list(_iter_escaped_chars(text)) -/
theorem pa_units {L : Addr} {m : Str → Option Value} {x : List Nat} {us : List (Nat × List Nat)} {t : Tok} {Q : Flow → Shared → Prop} {st' : Stmt} (hst : st' = paUnits w.params) (hr : Rm A 40) (hT : c.T = []) (hX : TextOK x us)
    (hS : S w c G Z (((paEnv w L).locals, m) :: ns) ((L + 2, cellO none) :: (L + 1, cellO none) :: l) s) (hm : m (Str.ofString "text") = some (.str (mkS x) t))
    (k : ∀ D vs k0 Z' G' s', Z.le Z' → UnitsAt Z' vs us → S w c G' Z' (((paEnv w L).locals, m) :: ns) ((L + 1, cellO (some (.ref D))) :: (D, W.listOf vs.toArray k0) :: (L + 2, cellO none) :: l) s' → Q .next s') : wpAny (model PG w) A (exec st' (paEnv w L)) Q E s := by
  subst hst
  have hul := hX.ulen
  refine wpAny_Assign_Name ?_
  with_reducible refine callT (T := "list") ?_
  with_reducible refine is_ldb hS.toZ0 (by kernel_rfl) (by kernel_rfl) ?_
  with_reducible refine args_one ?_
  with_reducible refine callF (f := 193) (by kernel_rfl) ?_
  with_reducible refine is_ldg hS.toZ0 (by kernel_rfl) ?_
  with_reducible refine args_one ?_
  with_reducible refine ld hS hm ?_
  refine ⟨hS.kin, ?_⟩
  refine iter_callA (hr.le (by omega)) hS fun a Lg mg G2 g nm qn s2 hS2 hI hac => ?_
  rw [mkS_list, ← hX.isU] at hI
  refine list_units (mkS_all _ hX.asc) (by rw [mkS_len]; have := hX.len; omega) hT (hr.le (by omega)) (by omega) hS2 hI fun D s3 G3 Z3 vs k0 hle3 hus hS3 => ?_
  refine stc hS3 (a := L + 1) (.tail (.tail (.tail .head))) fun s4 hS4 => ?_
  have hS5 : S w c G3 Z3 (((paEnv w L).locals, m) :: ns) ((L + 1, cellO (some (.ref D))) :: (D, W.listOf vs.toArray k0) :: (L + 2, cellO none) :: l) s4 := by
    have := hS4.sub (.refl _) (l' := (D, W.listOf vs.toArray k0) :: (L + 2, cellO none) :: (L + 1, cellO (some (.ref D))) :: l) (.cons_cons _ (.cons _ (.refl _)))
    exact this.perm (List.perm_middle (a := (L + 1, cellO (some (.ref D)))) (l₁ := [(D, W.listOf vs.toArray k0), (L + 2, cellO none)]) (l₂ := l)).symm
  exact k D vs k0 Z3 G3 s4 hle3 hus hS5
end
theorem parsed_body {w : World} {n : Nat} {x : List Nat} {us : List (Nat × List Nat)} {f : Fm} {o : Option (Fm × Fm)} (hn : 80 ≤ n) (hX : TextOK x us) (hx0 : o ≠ none → x ≠ [])
    (ho : ∀ k, 1 ≤ k → k < us.length → (∀ k', 1 ≤ k' → k' < k → cutAt x us k' = false) → cutAt x us k = true → ∃ fl fr, o = some (fl, fr) ∧ 1 ≤ (unitAt us (k - 1)).1 ∧ ParsedAt w n (frontOf x (unitAt us (k - 1)).1) fl ∧ ParsedAt w n (x.drop ((unitAt us (k - 1)).1 + 2)) fr)
    (hf1 : (∀ k, 1 ≤ k → k < us.length → cutAt x us k = false) → ∃ r, LeafOK w (nameOfU us) r ∧ f = .leaf (mkS r)) (hf2 : ∀ fl fr, o = some (fl, fr) → f = .node fl fr) : ParsedAt w (n + 50) x f := by
  intro A c G Z ns l s E Q fs t hr hT hfs hfn hS k
  have h1 : (KF w).lookup 227 = some (obAt w.params 227) := by kernel_rfl
  have h2 : (obAt w.params 227).data = .func (fdAt w.params 227) := by kernel_rfl
  have h3 : codeIn (KF w) (fdAt w.params 227).code (fdAt w.params 227).qualname = true := by kernel_rfl
  have h4 : (fdAt w.params 227).body = .stmts (bodyAt w.params 227) := by kernel_rfl
  have h5 : bindArgs (fdAt w.params 227) ⟨[.str (mkS x) t], []⟩ = pure [(Str.ofString "text", .str (mkS x) t)] := by kernel_rfl
  refine wpAny_call ?_
  with_reducible refine enterI (fun y => if y = Str.ofString "text" then some (.str (mkS x) t) else none) (fun L => [(L + 2, cellO none), (L + 1, cellO none)]) (n := n + 49) (hr.le (by omega)) hS.kin hS h1 h2 h3 h4 (bind_pure h5) (by kernel_rfl) (by kernel_rfl) ?_
  intro L s1 hS1 hLc hr1
  have hfs1 : (A.deeper (paEnv w L)).frames = some (paEnv w L :: fs) := by show Option.map _ A.frames = _; rw [hfs]; rfl
  have hfn1 : FrOk (paEnv w L :: fs) (((paEnv w L).locals, fun y => if y = Str.ofString "text" then some (.str (mkS x) t) else none) :: ns) := hfn.cons
  have hS1 : S w c G Z (((paEnv w L).locals, fun y => if y = Str.ofString "text" then some (.str (mkS x) t) else none) :: ns) ((L + 2, cellO none) :: (L + 1, cellO none) :: l) s1 := hS1
  have hul := hX.ulen
  rw [pa_parts w]
  with_reducible refine wpAny_execs_cons ?_
  with_reducible refine pa_units rfl (hr1.le (by omega)) hT hX hS1 put fun D vs k0 Z3 G3 s4 hle3 hus hS5 => ?_
  with_reducible refine wpAny_execs_cons ?_
  with_reducible refine pa_for (n := n) (x := x) (us := us) (fs := paEnv w L :: fs) (o := o) rfl (hr1.le (by omega)) hT hX hx0 hfs1 hfn1 ho hS5 hus put (fun m' Z' G' s5 hle5 hno hm' hS6 => ?_) (fun fl fr v m' Z' G' s5 e hle5 hv hS6 => ?_)
  · obtain ⟨r, hlf, rfl⟩ := hf1 hno
    have hS7 := hS6.perm (l' := (L + 2, cellO none) :: (L + 1, cellO (some (.ref D))) :: (D, W.listOf vs.toArray k0) :: l) (List.perm_middle (a := (L + 2, cellO none)) (l₁ := [(L + 1, cellO (some (.ref D))), (D, W.listOf vs.toArray k0)]) (l₂ := l)).symm
    with_reducible refine wpAny_execs_cons ?_
    with_reducible refine pa_kinds (us := us) rfl (hr1.le (by omega)) hT hX.pos hul hS7 (hus.mono hle5) fun K ks kn Z8 s8 hle8 hks hS8 => ?_
    with_reducible refine wpAny_execs_cons ?_
    with_reducible refine pa_name (us := us) rfl (hr1.le (by omega)) hT hX.pos hul hS8 ((hus.mono hle5).mono hle8) hks fun Z9 t9 s9 hle9 hS9 => ?_
    with_reducible refine wpAny_execs_cons ?_
    have hle := ((hle3.trans hle5).trans hle8).trans hle9
    obtain ⟨q1, q2, q3, q4⟩ := hlf
    rcases q4 with ⟨q4, rfl⟩ | ⟨q4, rfl⟩
    · with_reducible refine try_plain rfl (hr1.le (by omega)) hT hS9 put q4 q3 fun s10 hS10 => ?_
      exact k _ Z9 _ _ hle (.leaf _ _) (hS10.sub (.cons _ (.refl _)) (.refl _))
    · with_reducible refine try_raise (fs := fs) rfl (hr1.le (by omega)) hT hfs1 hfn1.to hS9 put q1 q2 q4 q3 fun m'' t10 s10 hS10 => ?_
      exact k _ Z9 _ _ hle (.leaf _ _) (hS10.sub (.cons _ (.refl _)) (.refl _))
  · obtain rfl := hf2 fl fr e
    exact k v Z' G' s5 (hle3.trans hle5) hv (hS6.sub (.cons _ (.refl _)) (.cons _ (.refl _)))
theorem parsed_ok {w : World} {d : Nat} {x : List Nat} {f : Fm} (h : ParseOK w d x f) : ParsedAt w (50 * d + 130) x f := by
  induction h with
  | @leaf d x us r hX hno hl =>
    have := parsed_body (w := w) (n := 50 * d + 80) (o := none) (f := .leaf (mkS r)) (by omega) hX (fun q => absurd rfl q) (fun k a b _ q => by rw [hno k a b] at q; cases q) (fun _ => ⟨r, hl, rfl⟩) (fun _ _ q => nomatch q)
    exact this
  | @node d x us j fl fr hX hx0 hj1 hj2 hcut hno hp _ _ ih1 ih2 =>
    refine parsed_body (w := w) (n := 50 * d + 130) (o := some (fl, fr)) (f := .node fl fr) (by omega) hX (fun _ => hx0) (fun k a b q1 q2 => ?_) (fun q => ?_) (fun _ _ q => by injection q with q; injection q with q1 q2; rw [q1, q2])
    · have e : k = j := by
        rcases Nat.lt_trichotomy k j with q | q | q
        · rw [hno k a q] at q2; cases q2
        · exact q
        · rw [q1 j hj1 q] at hcut; cases hcut
      subst e
      exact ⟨fl, fr, rfl, hp, ih1, ih2⟩
    · rw [q j hj1 hj2] at hcut; cases hcut
/-! ### drawn formulas -/
noncomputable def nameL (n : Nat) : List Nat := [[97], [97, 98], [98], [65], [97, 66], [66]].getD n []
noncomputable def ctlL (k : Nat) : Nat := [9, 11, 31, 127, 1, 10].getD k 0
noncomputable def hideT (k : Nat) : List (List Nat) := [[], [92, 40], [92, 45], [92, 92], [45], [92, 34], [ctlL k], [34, 45, 62, 40, 34], [34, 92, 34, 41, 34]]
noncomputable def hideL (k n : Nat) : List Nat := (hideT k).getD n []
noncomputable def showL (k n : Nat) : List Nat := if (hideL k n).head? = some 34 then [] else hideL k n
inductive Dt where
  | leaf (k a b : Nat)
  | node (l r : Dt)
noncomputable def Dt.fm : Dt → Fm
  | .leaf _ a _ => .leaf (mkS (nameL a))
  | .node l r => .node l.fm r.fm
noncomputable def Dt.isNode : Dt → Bool
  | .leaf .. => false
  | .node .. => true
noncomputable def withHide (h : Nat → Nat → List Nat) (k a b : Nat) : List Nat := if k % 2 = 1 then nameL a ++ h k b else h k b ++ nameL a
noncomputable def Dt.str (h : Nat → Nat → List Nat) : Dt → List Nat
  | .leaf k a b => withHide h k a b
  | .node l r => (if l.isNode then [40] ++ l.str h ++ [41] else l.str h) ++ [45, 62] ++ r.str h
noncomputable def Dt.leaves : Dt → List (Nat × Nat × Nat)
  | .leaf k a b => [(k, a, b)]
  | .node l r => l.leaves ++ r.leaves
theorem nameL_len (n : Nat) : (nameL n).length ≤ 2 := by
  unfold nameL
  rcases n with _ | _ | _ | _ | _ | _ | n <;> simp
theorem hideL_len (k n : Nat) : (hideL k n).length ≤ 5 := by
  unfold hideL hideT
  rcases n with _ | _ | _ | _ | _ | _ | _ | _ | _ | n <;> simp
theorem showL_len (k n : Nat) : (showL k n).length ≤ 5 := by
  unfold showL
  split
  · simp
  · exact hideL_len k n
theorem Dt.str_len {h : Nat → Nat → List Nat} (hh : ∀ k n, (h k n).length ≤ 5) : ∀ d : Dt, (d.str h).length + 4 ≤ 11 * d.leaves.length
  | .leaf k a b => by
    unfold Dt.str Dt.leaves withHide
    have h1 := nameL_len a
    have h2 := hh k b
    split <;> simp <;> omega
  | .node l r => by
    unfold Dt.str Dt.leaves
    have h1 := l.str_len hh
    have h2 := r.str_len hh
    split <;> simp <;> omega
/-- a part: its tree, its text, its bare text -/
noncomputable def partO (v : Value) (x y : List Nat) (t u : Tok) (n : Nat) : Obj := W.listOf #[v, .str (mkS x) t, .str (mkS y) u] n
inductive PartsAt (Z : Zone) : List Value → List Dt → Prop
  | nil : PartsAt Z [] []
  | cons {b : Addr} {v : Value} {d : Dt} {t u : Tok} {n : Nat} {vs ds} : Z b = some (partO v (d.str hideL) (d.str showL) t u n) → TreeAt Z v d.fm → PartsAt Z vs ds → PartsAt Z (.ref b :: vs) (d :: ds)
theorem PartsAt.mono {Z Z' : Zone} (h : Z.le Z') {vs ds} (x : PartsAt Z vs ds) : PartsAt Z' vs ds := by
  induction x with
  | nil => exact .nil
  | cons a b _ ih => exact .cons (h _ _ a) (b.mono h) ih
theorem PartsAt.append {Z : Zone} {vs ds ws es} (x : PartsAt Z vs ds) (y : PartsAt Z ws es) : PartsAt Z (vs ++ ws) (ds ++ es) := by
  induction x with
  | nil => exact y
  | cons a b _ ih => exact .cons a b ih
theorem PartsAt.length {Z : Zone} {vs ds} (x : PartsAt Z vs ds) : vs.length = ds.length := by
  induction x with
  | nil => rfl
  | cons _ _ _ ih => simp [ih]
theorem PartsAt.take {Z : Zone} {vs ds} (x : PartsAt Z vs ds) : ∀ i, PartsAt Z (vs.take i) (ds.take i) := by
  induction x with
  | nil => intro i; simpa using .nil
  | cons a b _ ih =>
    intro i
    cases i with
    | zero => exact .nil
    | succ i => exact .cons a b (ih i)
theorem PartsAt.drop {Z : Zone} {vs ds} (x : PartsAt Z vs ds) : ∀ i, PartsAt Z (vs.drop i) (ds.drop i) := by
  induction x with
  | nil => intro i; simpa using .nil
  | cons a b r ih =>
    intro i
    cases i with
    | zero => exact .cons a b r
    | succ i => exact ih i
theorem PartsAt.at {Z : Zone} {vs ds} (x : PartsAt Z vs ds) : ∀ {i : Nat}, i < ds.length → ∃ b v d t u n, vs[i]? = some (.ref b) ∧ ds[i]? = some d ∧ Z b = some (partO v (d.str hideL) (d.str showL) t u n) ∧ TreeAt Z v d.fm := by
  induction x with
  | nil => intro i h; simp at h
  | cons a b r ih =>
    intro i h
    cases i with
    | zero => exact ⟨_, _, _, _, _, _, rfl, rfl, a, b⟩
    | succ i => simpa using ih (by simpa using h)
noncomputable abbrev drEnv (w : World) (L : Addr) : Env := callEnvC (fdAt w.params 222) L 222
noncomputable def drAt (P : Params) (i : Nat) : Stmt := (bodyAt P 222).getD i (.Pass ⟨0, 0, 0, 0⟩)
noncomputable def drFor (P : Params) : List Stmt := match drAt P 2 with
  | .For _ _ b _ _ => b
  | _ => []
noncomputable def drF (P : Params) (i : Nat) : Stmt := (drFor P).getD i (.Pass ⟨0, 0, 0, 0⟩)
noncomputable def drWhile (P : Params) : List Stmt := match drAt P 3 with
  | .While _ b _ _ => b
  | _ => []
noncomputable def drW (P : Params) (i : Nat) : Stmt := (drWhile P).getD i (.Pass ⟨0, 0, 0, 0⟩)
theorem dr_parts (w : World) : bodyAt w.params 222 = [drAt w.params 0, drAt w.params 1, drAt w.params 2, drAt w.params 3, drAt w.params 4] := by kernel_rfl
theorem dr_for (w : World) : drFor w.params = [drF w.params 0, drF w.params 1, drF w.params 2] := by kernel_rfl
theorem dr_while (w : World) : drWhile w.params = [drW w.params 0, drW w.params 1, drW w.params 2, drW w.params 3, drW w.params 4] := by kernel_rfl
section
variable {w : World} {c : Ctx0} {G : Array GenState} {Z : Zone} {ns : List (Addr × (Str → Option Value))} {l : List (Addr × Obj)} {s : Shared} {A : Around} {E : Value → Shared → Prop}
noncomputable def namesS : List Str := [Str.ofString "a", Str.ofString "ab", Str.ofString "b", Str.ofString "A", Str.ofString "aB", Str.ofString "B"]
theorem namesS_eq : namesS = [0, 1, 2, 3, 4, 5].map fun n => mkS (nameL n) := by decide +kernel
noncomputable def hideS (k : Nat) : List Str := [Str.ofString "", Str.ofString "\\(", Str.ofString "\\-", Str.ofString "\\\\", Str.ofString "-", Str.ofString "\\\"", ⟨#[ctlL k]⟩, Str.ofString "\"->(\"", Str.ofString "\"\\\")\""]
theorem hideS_eq (k : Nat) : hideS k = (hideT k).map mkS := by
  unfold hideS hideT
  rw [show Str.ofString "" = mkS [] from by decide +kernel, show Str.ofString "\\(" = mkS [92, 40] from by decide +kernel, show Str.ofString "\\-" = mkS [92, 45] from by decide +kernel, show Str.ofString "\\\\" = mkS [92, 92] from by decide +kernel,
    show Str.ofString "-" = mkS [45] from by decide +kernel, show Str.ofString "\\\"" = mkS [92, 34] from by decide +kernel, show Str.ofString "\"->(\"" = mkS [34, 45, 62, 40, 34] from by decide +kernel, show Str.ofString "\"\\\")\"" = mkS [34, 92, 34, 41, 34] from by decide +kernel]
  rfl
/-- names = [..] -/
theorem dr_names {L : Addr} {m : Str → Option Value} {Q : Flow → Shared → Prop} {st' : Stmt} (hst : st' = drAt w.params 0)
    (hS : S w c G Z (((drEnv w L).locals, m) :: ns) l s)
    (k : ∀ D vs s', c.sc.heap.get? D = none → StrsV vs namesS → S w c G Z (((drEnv w L).locals, fun y => if y = Str.ofString "names" then some (.ref D) else m y) :: ns) ((D, W.listOf vs.toArray 0) :: l) s' → Q .next s') : wpAny (model PG w) A (exec st' (drEnv w L)) Q E s := by
  subst hst
  refine wpAny_Assign_Name ?_
  with_reducible refine mk_list ?_
  with_reducible refine args_cons ?_
  with_reducible refine con_str hS fun t1 s1 hS1 => ?_
  with_reducible refine args_cons ?_
  with_reducible refine con_str hS1 fun t2 s2 hS2 => ?_
  with_reducible refine args_cons ?_
  with_reducible refine con_str hS2 fun t3 s3 hS3 => ?_
  with_reducible refine args_cons ?_
  with_reducible refine con_str hS3 fun t4 s4 hS4 => ?_
  with_reducible refine args_cons ?_
  with_reducible refine con_str hS4 fun t5 s5 hS5 => ?_
  with_reducible refine args_one ?_
  with_reducible refine con_str hS5 fun t6 s6 hS6 => ?_
  refine ⟨_, _, _, _, _, hS6, (by show 6 ≤ sizeLine; decide), fun D s7 hD hS7 => ?_⟩
  refine st hS7 fun s8 hS8 => ?_
  exact k D _ s8 hD (.cons _ _ (.cons _ _ (.cons _ _ (.cons _ _ (.cons _ _ (.cons _ _ .nil)))))) hS8
/-- hide = [..] -/
theorem dr_hide {L : Addr} {m : Str → Option Value} {k : Nat} {tk : Tok} {Q : Flow → Shared → Prop} {st' : Stmt} (hst : st' = drF w.params 0) (hk : k < 6)
    (hS : S w c G Z (((drEnv w L).locals, m) :: ns) l s) (hC : (L + 1, cellO (some (.int (k : Nat) tk))) ∈ l)
    (kk : ∀ D vs s', StrsV vs (hideS k) → S w c G Z (((drEnv w L).locals, fun y => if y = Str.ofString "hide" then some (.ref D) else m y) :: ns) ((D, W.listOf vs.toArray 0) :: l) s' → Q .next s') : wpAny (model PG w) A (exec st' (drEnv w L)) Q E s := by
  subst hst
  refine wpAny_Assign_Name ?_
  with_reducible refine mk_list ?_
  with_reducible refine args_cons ?_
  with_reducible refine con_str hS fun t1 s1 hS1 => ?_
  with_reducible refine args_cons ?_
  with_reducible refine con_str hS1 fun t2 s2 hS2 => ?_
  with_reducible refine args_cons ?_
  with_reducible refine con_str hS2 fun t3 s3 hS3 => ?_
  with_reducible refine args_cons ?_
  with_reducible refine con_str hS3 fun t4 s4 hS4 => ?_
  with_reducible refine args_cons ?_
  with_reducible refine con_str hS4 fun t5 s5 hS5 => ?_
  with_reducible refine args_cons ?_
  with_reducible refine con_str hS5 fun t6 s6 hS6 => ?_
  with_reducible refine args_cons ?_
  with_reducible refine Subscript_ ?_
  with_reducible refine con_str hS6 fun t7 s7 hS7 => ?_
  with_reducible refine ldc hS7 (a := L + 1) hC ?_
  refine tail_any (T := "str") (ops := [.str (Str.ofString "\t\x0b\x1f\x7f\x01\n") t7, .int (k : Nat) tk]) (typeIs_str _ _ _) F.slot_str_getitem.lookup (PyProof.Rows.getItem_str (c := ctlL k) ?_ ?_ ?_) (by kernel_rfl)
  · have : ∀ k < 6, (decide (((k : Nat) : Int) < -(2 ^ 63 : Int)) || decide (((k : Nat) : Int) ≥ 2 ^ 63)) = false := by decide
    exact this k hk
  · have : ∀ k < 6, (seqIndex? ((k : Nat) : Int) (Str.ofString "\t\x0b\x1f\x7f\x01\n").length).bind ((Str.ofString "\t\x0b\x1f\x7f\x01\n").cps[·]?) = some (ctlL k) := by decide +kernel
    exact this k hk
  have hS8 := hS7.toks (s7.toks + 1)
  with_reducible refine args_cons ?_
  with_reducible refine con_str hS8 fun t9 s9 hS9 => ?_
  with_reducible refine args_one ?_
  with_reducible refine con_str hS9 fun t10 s10 hS10 => ?_
  refine ⟨_, _, _, _, _, hS10, (by show 9 ≤ sizeLine; decide), fun D s11 hD hS11 => ?_⟩
  refine st hS11 fun s12 hS12 => ?_
  exact kk D _ s12 (.cons _ _ (.cons _ _ (.cons _ _ (.cons _ _ (.cons _ _ (.cons _ _ (.cons _ _ (.cons _ _ (.cons _ _ .nil))))))))) hS12
end
section
variable {w : World} {c : Ctx0} {G : Array GenState} {Z : Zone} {ns : List (Addr × (Str → Option Value))} {l : List (Addr × Obj)} {s : Shared} {A : Around} {E : Value → Shared → Prop}
theorem fdiv_nat (a b : Nat) : ((a : Nat) : Int).fdiv ((b : Nat) : Int) = ((a / b : Nat) : Int) := by
  rw [Int.fdiv_eq_ediv_of_nonneg _ (by omega)]; rfl
theorem fmod_nat (a b : Nat) : ((a : Nat) : Int).fmod ((b : Nat) : Int) = ((a % b : Nat) : Int) := by
  rw [Int.fmod_eq_emod_of_nonneg _ (by omega)]; rfl
/-- x // b ** k % c -/
theorem digit {L : Addr} {m : Str → Option Value} {x : Str} {a k b d : Nat} {ta tk : Tok} {k1 k2 : Nat} {p1 p2 p3 p4 p5 p6 p7 : Pos} {Q : Value → Shared → Prop} (hS : S w c G Z (((drEnv w L).locals, m) :: ns) l s) (hC : (L + 1, cellO (some (.int (k : Nat) tk))) ∈ l) (hm : m x = some (.int (a : Nat) ta))
    (hk : k < 6) (hb : 0 < b) (hb2 : b ≤ 6) (hd : 0 < d) (hq : ∀ t s', S w c G Z (((drEnv w L).locals, m) :: ns) l s' → Q (.int (a / b ^ k % d : Nat) t) s') (hl : (drEnv w L).kindOf x = some .local := by kernel_rfl) (hnd : (x == ("__debug__" : Str)) = false := by decide) :
    wpAny (model PG w) A (eval (.BinOp (.BinOp (.Name x p1) .FloorDiv (.BinOp (.Constant (.int (b : Nat)) k1 p2) .Pow (.Name (Str.ofString "k") p3) p4) p5) .Mod (.Constant (.int (d : Nat)) k2 p6) p7) (drEnv w L)) Q E s := by
  with_reducible refine wpAny_BinOp ?_
  with_reducible refine wpAny_BinOp ?_
  with_reducible refine ld hS hm ?_ (by kernel_rfl) hl hnd
  with_reducible refine wpAny_BinOp ?_
  with_reducible refine con_int hS fun t1 s1 hS1 => ?_
  with_reducible refine ldc hS1 (a := L + 1) hC ?_
  refine pow_int_small (by omega) (by omega) (by omega) ?_
  have e1 : ((b : Nat) : Int) ^ ((k : Nat) : Int).toNat = ((b ^ k : Nat) : Int) := by rw [Int.toNat_natCast]; simp
  rw [e1]
  have hbk : 0 < b ^ k := Nat.pow_pos hb
  have hbk2 : b ^ k ≤ 6 ^ 5 := Nat.le_trans (Nat.pow_le_pow_left hb2 k) (Nat.pow_le_pow_right (by decide) (by omega))
  refine floordiv_int (by omega) ?_ (.inl (PyProof.noPylong_small (by omega)))
  rw [fdiv_nat]
  have hS2 := (hS1.toks (s1.toks + 1)).toks (s1.toks + 1 + 1)
  with_reducible refine con_int hS2 fun t3 s3 hS3 => ?_
  refine mod_int (by omega) ?_
  rw [fmod_nat]
  exact hq _ _ (hS3.toks _)
theorem StrsV.nth {vs : List Value} {xs : List Str} (h : StrsV vs xs) (i : Nat) (hi : i < xs.length) : ∃ t, vs[i]? = some (.str (xs.getD i Str.empty) t) := by
  have hlt : i < vs.length := by rw [h.length]; exact hi
  obtain ⟨x, t, e1, e2⟩ := h.at (List.getElem?_eq_getElem hlt)
  refine ⟨t, ?_⟩
  rw [List.getElem?_eq_getElem hlt, e1, List.getD_eq_getElem?_getD, e2]; rfl
/-- name, x = (.., ..) -/
theorem dr_name {L Nm H : Addr} {m : Str → Option Value} {nvs hvs : List Value} {k ltr msk : Nat} {tk t1 t2 : Tok} {cn : Option Value} {Q : Flow → Shared → Prop} {st' : Stmt} (hst : st' = drF w.params 1) (hh : A.handled = none) (hk : k < 6)
    (hS : S w c G Z (((drEnv w L).locals, m) :: ns) ((L + 1, cellO (some (.int (k : Nat) tk))) :: (L + 2, cellO cn) :: l) s)
    (hm1 : m (Str.ofString "letters") = some (.int (ltr : Nat) t1)) (hm2 : m (Str.ofString "mask") = some (.int (msk : Nat) t2)) (hm3 : m (Str.ofString "names") = some (.ref Nm)) (hm4 : m (Str.ofString "hide") = some (.ref H))
    (hN : Z Nm = some (W.listOf nvs.toArray 0)) (hnv : StrsV nvs namesS) (hH : (H, W.listOf hvs.toArray 0) ∈ l) (hhv : StrsV hvs (hideS k))
    (kk : ∀ ta tb s', S w c G Z (((drEnv w L).locals, fun y => if y = Str.ofString "x" then some (.str (mkS (hideL k (msk / 5 ^ k % 9))) tb) else m y) :: ns) ((L + 1, cellO (some (.int (k : Nat) tk))) :: (L + 2, cellO (some (.str (mkS (nameL (ltr / 6 ^ k % 6))) ta))) :: l) s' → Q .next s') : wpAny (model PG w) A (exec st' (drEnv w L)) Q E s := by
  subst hst
  have i1 : ltr / 6 ^ k % 6 < 6 := Nat.mod_lt _ (by decide)
  have i2 : msk / 5 ^ k % 9 < 9 := Nat.mod_lt _ (by decide)
  have e1 : namesS.getD (ltr / 6 ^ k % 6) Str.empty = mkS (nameL (ltr / 6 ^ k % 6)) := by
    revert i1
    generalize ltr / 6 ^ k % 6 = i
    intro i1
    rw [namesS_eq]
    rcases i with _ | _ | _ | _ | _ | _ | i
    iterate 6 rfl
    omega
  have e2 : (hideS k).getD (msk / 5 ^ k % 9) Str.empty = mkS (hideL k (msk / 5 ^ k % 9)) := by
    revert i2
    generalize msk / 5 ^ k % 9 = i
    intro i2
    rw [hideS_eq]
    unfold hideL
    rcases i with _ | _ | _ | _ | _ | _ | _ | _ | _ | i
    iterate 9 rfl
    omega
  refine Assign_Tuple ?_ (by kernel_rfl) (by kernel_rfl)
  with_reducible refine mk_tuple ?_
  with_reducible refine args_cons ?_
  with_reducible refine Subscript_ ?_
  with_reducible refine ld hS hm3 ?_
  refine digit (b := 6) (d := 6) hS (.head _) hm1 hk (by decide) (by decide) (by decide) fun t3 s3 hS3 => ?_
  obtain ⟨ta, hta⟩ := hnv.nth (ltr / 6 ^ k % 6) (by show _ < 6; exact i1)
  rw [e1] at hta
  refine item_at (hS3.z _ _ hN) (by omega) (by omega) (show (nvs.toArray)[((ltr / 6 ^ k % 6 : Nat) : Int).toNat]? = _ by rw [Int.toNat_natCast, List.getElem?_toArray]; exact hta) ?_
  with_reducible refine args_one ?_
  with_reducible refine Subscript_ ?_
  with_reducible refine ld hS3 hm4 ?_
  refine digit (b := 5) (d := 9) hS3 (.head _) hm2 hk (by decide) (by decide) (by decide) fun t4 s4 hS4 => ?_
  obtain ⟨tb, htb⟩ := hhv.nth (msk / 5 ^ k % 9) (by show _ < 9; exact i2)
  rw [e2] at htb
  refine item_at (hS4.own' (.tail _ (.tail _ hH))) (by omega) (by omega) (show (hvs.toArray)[((msk / 5 ^ k % 9 : Nat) : Int).toNat]? = _ by rw [Int.toNat_natCast, List.getElem?_toArray]; exact htb) ?_
  refine ⟨_, _, _, _, _, hS4, (by show 2 ≤ sizeLine; decide), fun T s5 hTc hS5 => ?_⟩
  refine wpAny_assign_Tuple hh (items := #[.str (mkS (nameL (ltr / 6 ^ k % 6))) ta, .str (mkS (hideL k (msk / 5 ^ k % 9))) tb]) ⟨_, hS5.own' (.head _), rfl, _, rfl⟩ rfl rfl (fun h' he' => ?_)
  have h1 : S w c G Z _ _ { s5 with heap := h' } := hS5.heapK fun b o e => he' b o (Nat.ne_of_lt (Heap.lt_size e)) e
  show wpAny (model PG w) A (do holding [.str (mkS (hideL k (msk / 5 ^ k % 9))) tb] (assign (.Name (Str.ofString "name") _) (drEnv w L) (.str (mkS (nameL (ltr / 6 ^ k % 6))) ta)); assignInOrder [assign (.Name (Str.ofString "x") _) (drEnv w L)] [.str (mkS (hideL k (msk / 5 ^ k % 9))) tb]) _ E _
  refine wpAny_bind (wpAny_holding (wpAny_assign_Name ?_))
  refine stc h1 (a := L + 2) (.tail (.tail .head)) fun s6 hS6 => ?_
  show wpAny (model PG w) A (do assign (.Name (Str.ofString "x") _) (drEnv w L) (.str (mkS (hideL k (msk / 5 ^ k % 9))) tb); assignInOrder [] []) _ E _
  refine wpAny_bind (wpAny_assign_Name (st hS6 fun s7 hS7 => wpAny_pure ?_))
  exact kk ta tb s7 (hS7.sub (.refl _) (.cons _ (.refl _)))
end
section
variable {w : World} {c : Ctx0} {G : Array GenState} {Z : Zone} {ns : List (Addr × (Str → Option Value))} {l : List (Addr × Obj)} {s : Shared} {A : Around} {E : Value → Shared → Prop}
theorem mkS_beq (a b : List Nat) : (mkS a == mkS b) = decide (a = b) := by
  rw [Bool.eq_iff_iff, beq_iff_eq, decide_eq_true_iff]
  constructor
  · intro h
    have : a.toArray = b.toArray := congrArg Str.cps h
    simpa using congrArg Array.toList this
  · rintro rfl; rfl
/-- parts.append([name] + [..]) -/
theorem dr_append {L P : Addr} {m : Str → Option Value} {pvs : List Value} {pn k a b : Nat} {tk ta tb : Tok} {Q : Flow → Shared → Prop} {st' : Stmt} (hst : st' = drF w.params 2) (hh : A.handled = none) (hT : c.T = [])
    (hS : S w c G Z (((drEnv w L).locals, m) :: ns) ((P, W.listOf pvs.toArray pn) :: (L + 1, cellO (some (.int (k : Nat) tk))) :: (L + 2, cellO (some (.str (mkS (nameL a)) ta))) :: l) s) (hpl : pvs.length ≤ 100)
    (hm1 : m (Str.ofString "x") = some (.str (mkS (hideL k b)) tb)) (hm2 : m (Str.ofString "parts") = some (.ref P))
    (kk : ∀ Z' x pn' s', Z.le Z' → PartsAt Z' [x] [.leaf k a b] → S w c G Z' (((drEnv w L).locals, m) :: ns) ((P, W.listOf (pvs ++ [x]).toArray pn') :: (L + 1, cellO (some (.int (k : Nat) tk))) :: (L + 2, cellO (some (.str (mkS (nameL a)) ta))) :: l) s' → Q .next s') : wpAny (model PG w) A (exec st' (drEnv w L)) Q E s := by
  subst hst
  refine wpAny_Expr ?_
  with_reducible refine append_own ?_
  with_reducible refine ld hS hm2 ?_
  refine ⟨P, pvs.toArray, pn, rfl, hS.own' (.head _), ?_⟩
  with_reducible refine wpAny_BinOp ?_
  with_reducible refine mk_list ?_
  with_reducible refine args_one ?_
  with_reducible refine ldc hS (a := L + 2) (v := .str (mkS (nameL a)) ta) (List.Mem.tail _ (List.Mem.tail _ (List.Mem.head _))) ?_
  refine ⟨_, _, _, _, _, hS, (by show 1 ≤ sizeLine; decide), fun D1 s1 hD1 hS1 => ?_⟩
  refine comp (cl := [(Str.ofString "name", L + 2), (Str.ofString "k", L + 1)]) ?_
  with_reducible refine mk_tuple ?_
  with_reducible refine args_cons ?_
  with_reducible refine ld hS1 hm1 ?_
  with_reducible refine args_one ?_
  refine wpAny_mono (Q := fun v s' => ∃ t, v = .str (mkS (showL k b)) t ∧ S w c G Z (((drEnv w L).locals, m) :: ns) ((D1, W.listOf [Value.str (mkS (nameL a)) ta].toArray 0) :: (P, W.listOf pvs.toArray pn) :: (L + 1, cellO (some (.int (k : Nat) tk))) :: (L + 2, cellO (some (.str (mkS (nameL a)) ta))) :: l) s') ?_ (fun v s2 h2 => ?_) (fun _ _ x => x)
  · refine wpAny_IfExp ?_
    with_reducible refine wpAny_isTrue_Compare1 ?_ (by kernel_rfl)
    with_reducible refine sl_strE ?_
    with_reducible refine ld hS1 hm1 ?_
    refine part_none (part_some ?_)
    with_reducible refine con_int hS1 fun t2 s2 hS2 => ?_
    have hl5 := hideL_len k b
    refine ⟨_, _, none, some (((1 : Nat) : Int), t2), rfl, rfl, rfl, c, G, Z, _, _, hS2, by rw [mkS_len, sizeLine_eq]; omega, fun t3 s3 hS3 => ?_⟩
    with_reducible refine con_str hS3 fun t4 s4 hS4 => ?_
    refine PyProof.Rows.eq_str (wpAny_truthy_bool ?_)
    have e : (Txt.slice (mkS (hideL k b)) (Option.map (·.1) (none : Option (Int × Tok))) (Option.map (·.1) (some (((1 : Nat) : Int), t2))) == Str.ofString "\"") = decide ((hideL k b).head? = some 34) := by
      show (Txt.slice (mkS (hideL k b)) none (some ((1 : Nat) : Int)) == _) = _
      rw [show Str.ofString "\"" = mkS [34] from by decide +kernel, slice_to, mkS_list]
      show (mkS _ == _) = _
      rw [mkS_beq]
      cases hideL k b with
      | nil => rfl
      | cons h xs => simp
    rw [e]
    by_cases q : (hideL k b).head? = some 34
    · rw [decide_eq_true q, if_pos rfl]
      with_reducible refine con_str hS4 fun t5 s5 hS5 => ?_
      refine ⟨t5, ?_, hS5⟩
      unfold showL
      rw [if_pos q]
      exact congrArg (fun x => Value.str x t5) (by decide +kernel)
    · rw [decide_eq_false q, if_neg (by decide)]
      with_reducible refine ld hS4 hm1 ?_
      refine ⟨tb, ?_, hS4⟩
      unfold showL
      rw [if_neg q]
  obtain ⟨t2, rfl, hS2⟩ := h2
  refine ⟨_, _, _, _, _, hS2, (by show 2 ≤ sizeLine; decide), fun T s3 hTc hS3 => ?_⟩
  refine iter_tuple hS3 (hS3.own' (.head _)) fun I io s4 hne hJ hIc hS4 => ?_
  refine ⟨c, G, Z, _, ns, _, I, io, kTuple T [.str (mkS (hideL k b)) tb, .str (mkS (showL k b)) t2], fun i ys Z' => StrsV ys (([mkS (withHide hideL k a b), mkS (withHide showL k a b)]).take i), rfl, itr_tuple hh I T hne _, hJ, (by show 2 ≤ 10000; decide), hS4, (fun a ha => by rw [hT] at ha; cases ha), .nil, (fun Z' ns' a b s hS' _ => ⟨_, hS'.own' (.tail _ (.tail _ (.head _))), rfl, _, rfl⟩), ?_, ?_⟩
  · intro C D2 i v ys Z' m' k' io' s8 E hi hP hJ' hI hle hS8
    have hi : i < 2 := hi
    have hh5 : ∃ h tv, v = .str (mkS (h k b)) tv ∧ (h k b).length ≤ 5 ∧ [mkS (withHide hideL k a b), mkS (withHide showL k a b)][i]? = some (mkS (withHide h k a b)) := by
      have hP : [Value.str (mkS (hideL k b)) tb, .str (mkS (showL k b)) t2][i]? = some v := hP
      rcases i with _ | _ | i
      · injection hP with hP; exact ⟨hideL, tb, hP.symm, hideL_len k b, rfl⟩
      · injection hP with hP; exact ⟨showL, t2, hP.symm, showL_len k b, rfl⟩
      · omega
    obtain ⟨h, tv, rfl, hl5, hat⟩ := hh5
    have hl2 := nameL_len a
    refine wpAny_pure ?_
    refine wpAny_assign_Name (st hS8 fun s9 hS9 => ?_)
    refine wpAny_pure ?_
    rw [if_pos rfl]
    refine absQ fun Q5 hQ5 => ?_
    have fin : ∀ t s', S w c G Z' ((C, fun y => if y = Str.ofString "y" then some (.str (mkS (h k b)) tv) else m' y) :: ((drEnv w L).locals, m) :: ns) ((I, io') :: (D2, W.listOf ys.toArray k') :: (T, tupObj [.str (mkS (hideL k b)) tb, .str (mkS (showL k b)) t2]) :: (D1, W.listOf [Value.str (mkS (nameL a)) ta].toArray 0) :: (P, W.listOf pvs.toArray pn) :: (L + 1, cellO (some (.int (k : Nat) tk))) :: (L + 2, cellO (some (.str (mkS (nameL a)) ta))) :: l) s' →
        ∃ Z'' m'', Z.le Z'' ∧ S w c G Z'' ((C, m'') :: ((drEnv w L).locals, m) :: ns) ((I, io') :: (D2, W.listOf ys.toArray k') :: (T, tupObj [.str (mkS (hideL k b)) tb, .str (mkS (showL k b)) t2]) :: (D1, W.listOf [Value.str (mkS (nameL a)) ta].toArray 0) :: (P, W.listOf pvs.toArray pn) :: (L + 1, cellO (some (.int (k : Nat) tk))) :: (L + 2, cellO (some (.str (mkS (nameL a)) ta))) :: l) s' ∧
          StrsV (ys ++ [.str (mkS (withHide h k a b)) t]) (([mkS (withHide hideL k a b), mkS (withHide showL k a b)]).take (i + 1)) := fun t s' hS' => by
      refine ⟨Z', _, hle, hS', ?_⟩
      rw [List.take_add_one, hat]
      exact hI.snoc _ _
    have mk : (L + 1, cellO (some (.int (k : Nat) tk))) ∈ (I, io') :: (D2, W.listOf ys.toArray k') :: (T, tupObj [.str (mkS (hideL k b)) tb, .str (mkS (showL k b)) t2]) :: (D1, W.listOf [Value.str (mkS (nameL a)) ta].toArray 0) :: (P, W.listOf pvs.toArray pn) :: (L + 1, cellO (some (.int (k : Nat) tk))) :: (L + 2, cellO (some (.str (mkS (nameL a)) ta))) :: l := .tail _ (.tail _ (.tail _ (.tail _ (.tail _ (.head _)))))
    have mn : (L + 2, cellO (some (.str (mkS (nameL a)) ta))) ∈ (I, io') :: (D2, W.listOf ys.toArray k') :: (T, tupObj [.str (mkS (hideL k b)) tb, .str (mkS (showL k b)) t2]) :: (D1, W.listOf [Value.str (mkS (nameL a)) ta].toArray 0) :: (P, W.listOf pvs.toArray pn) :: (L + 1, cellO (some (.int (k : Nat) tk))) :: (L + 2, cellO (some (.str (mkS (nameL a)) ta))) :: l := .tail _ (.tail _ (.tail _ (.tail _ (.tail _ (.tail _ (.head _))))))
    refine wpAny_IfExp ?_
    with_reducible refine isTrue_plain ?_ (by kernel_rfl)
    with_reducible refine wpAny_BinOp ?_
    with_reducible refine ldc hS9 (a := L + 1) mk ?_
    with_reducible refine con_int hS9 fun t10 s10 hS10 => ?_
    refine mod_int (by decide) ?_
    rw [show (2 : Int) = ((2 : Nat) : Int) from rfl, fmod_nat]
    refine PyProof.Rows.truthy_int ?_
    have hS11 := hS10.toks (s10.toks + 1)
    have hszs : (mkS (nameL a)).length + (mkS (h k b)).length ≤ sizeLine := by rw [mkS_len, mkS_len, sizeLine_eq]; omega
    have hszs2 : (mkS (h k b)).length + (mkS (nameL a)).length ≤ sizeLine := by rw [mkS_len, mkS_len, sizeLine_eq]; omega
    by_cases q : k % 2 = 1
    · rw [show (((k % 2 : Nat) : Int) != 0) = true by rw [q]; rfl, if_pos rfl]
      with_reducible refine wpAny_BinOp ?_
      with_reducible refine ldc hS11 (a := L + 2) mn ?_
      with_reducible refine ld hS11 (v := .str (mkS (h k b)) tv) ?_ ?_
      · walk_at "lk"
      refine add_str' hS11 hszs fun t12 s12 hS12 => ?_
      have := fin t12 s12 hS12
      rw [show withHide h k a b = nameL a ++ h k b from if_pos q, ← mkS_append] at this
      exact hQ5 _ _ this
    · have q0 : k % 2 = 0 := by omega
      rw [show (((k % 2 : Nat) : Int) != 0) = false by rw [q0]; rfl, if_neg (by decide)]
      with_reducible refine wpAny_BinOp ?_
      with_reducible refine ld hS11 (v := .str (mkS (h k b)) tv) ?_ ?_
      · walk_at "lk"
      with_reducible refine ldc hS11 (a := L + 2) mn ?_
      refine add_str' hS11 hszs2 fun t12 s12 hS12 => ?_
      have := fin t12 s12 hS12
      rw [show withHide h k a b = h k b ++ nameL a from if_neg q, ← mkS_append] at this
      exact hQ5 _ _ this
  · intro D3 ys Z' kn s8 hD3 hI hle hS8
    have hI : StrsV ys [mkS (withHide hideL k a b), mkS (withHide showL k a b)] := hI
    obtain ⟨u1, u2, rfl⟩ : ∃ u1 u2, ys = [.str (mkS (withHide hideL k a b)) u1, .str (mkS (withHide showL k a b)) u2] := by
      cases hI with
      | cons x t h1 =>
        cases h1 with
        | cons y t' h2 => cases h2; exact ⟨_, _, rfl⟩
    refine add_own hS8 (vs := [Value.str (mkS (nameL a)) ta]) (ws := [Value.str (mkS (withHide hideL k a b)) u1, Value.str (mkS (withHide showL k a b)) u2]) (hS8.own' (.tail _ (.tail _ (.head _)))) (hS8.own' (.head _)) (by show 3 ≤ sizeLine; rw [sizeLine_eq]; decide) fun X s9 hX hS9 => ?_
    refine ⟨c, G, Z', _, _, _, hS9, .tail (.tail (.tail (.tail .head))), by rw [List.size_toArray, sizeLine_eq]; omega, fun s10 hS10 => ?_⟩
    have hS11 := hS10.sub (l' := (X, W.listOf ([Value.str (mkS (nameL a)) ta] ++ [Value.str (mkS (withHide hideL k a b)) u1, Value.str (mkS (withHide showL k a b)) u2]).toArray 0) :: (P, W.listOf (pvs.toArray.push (.ref X)) (pn + 1)) :: (L + 1, cellO (some (.int (k : Nat) tk))) :: (L + 2, cellO (some (.str (mkS (nameL a)) ta))) :: l) (.refl _) (.cons_cons _ (.cons _ (.cons _ (.cons _ (.refl _)))))
    have hzx := hS11.zo X (List.mem_append_right _ (.head _))
    have hS12 := hS11.freeze hX
    rw [List.push_toArray] at hS12
    exact kk _ (.ref X) _ s10 (hle.trans (Zone.put_le _ hzx)) (.cons (t := u1) (u := u2) (n := 0) (v := .str (mkS (nameL a)) ta) Zone.put_self (.leaf _ _) .nil) hS12
end
noncomputable def leafD (ltr msk k : Nat) : Dt := .leaf k (ltr / 6 ^ k % 6) (msk / 5 ^ k % 9)
section
variable {w : World} {c : Ctx0} {G : Array GenState} {Z : Zone} {ns : List (Addr × (Str → Option Value))} {l : List (Addr × Obj)} {s : Shared} {A : Around} {E : Value → Shared → Prop}
inductive DfI (w : World) (c : Ctx0) (G : Array GenState) (Z : Zone) (ns : List (Addr × (Str → Option Value))) (l : List (Addr × Obj)) (L I r P : Addr) (ro : Obj) (m : Str → Option Value) (many ltr msk : Nat) (k' : Nat) (s' : Shared) : Prop
  | mk (i : Nat) (m' : Str → Option Value) (io : Obj) (Z' : Zone) (pvs : List Value) (pn : Nat) (c1 c2 : Option Value) (h1 : k' = many - i) (h2 : i ≤ many) (h3 : (kRange 0 many).J i io) (h4 : Z.le Z') (h5 : ∀ y, y ≠ Str.ofString "hide" → y ≠ Str.ofString "x" → m' y = m y) (h6 : PartsAt Z' pvs ((List.range i).map (leafD ltr msk)))
      (hS : S w c G Z' (((drEnv w L).locals, m') :: ns) ((I, io) :: (r, ro) :: (P, W.listOf pvs.toArray pn) :: (L + 1, cellO c1) :: (L + 2, cellO c2) :: l) s') : DfI w c G Z ns l L I r P ro m many ltr msk k' s'
/-- for k in range(many) -/
theorem dr_for_ok {L P Nm : Addr} {m : Str → Option Value} {nvs : List Value} {many ltr msk : Nat} {t0 t1 t2 : Tok} {Q : Flow → Shared → Prop} {st' : Stmt} (hst : st' = drAt w.params 2) (hr : Rm A 10) (hT : c.T = []) (hmany : many ≤ 6)
    (hS : S w c G Z (((drEnv w L).locals, m) :: ns) ((P, W.listOf ([] : List Value).toArray 0) :: (L + 1, cellO none) :: (L + 2, cellO none) :: l) s)
    (hm0 : m (Str.ofString "many") = some (.int (many : Nat) t0)) (hm1 : m (Str.ofString "letters") = some (.int (ltr : Nat) t1)) (hm2 : m (Str.ofString "mask") = some (.int (msk : Nat) t2)) (hm3 : m (Str.ofString "names") = some (.ref Nm)) (hm4 : m (Str.ofString "parts") = some (.ref P))
    (hN : Z Nm = some (W.listOf nvs.toArray 0)) (hnv : StrsV nvs namesS)
    (kk : ∀ Z' m' pvs pn c1 c2 s', Z.le Z' → (∀ y, y ≠ Str.ofString "hide" → y ≠ Str.ofString "x" → m' y = m y) → PartsAt Z' pvs ((List.range many).map (leafD ltr msk)) → S w c G Z' (((drEnv w L).locals, m') :: ns) ((P, W.listOf pvs.toArray pn) :: (L + 1, cellO c1) :: (L + 2, cellO c2) :: l) s' → Q .next s') :
    wpAny (model PG w) A (exec st' (drEnv w L)) Q E s := by
  subst hst
  refine wpAny_For ?_ (fun _ => rfl)
  with_reducible refine callT (T := "range") ?_
  with_reducible refine is_ldb hS.toZ0 (by kernel_rfl) (by kernel_rfl) ?_
  with_reducible refine args_one ?_
  with_reducible refine ld hS hm0 ?_
  with_reducible refine iter_range1 hS (by omega) fun r ro s3 hS3 hIt => ?_
  refine hIt _ _ _ _ _ _ _ hS3 (.head _) fun I io s4 hJ hIc hS4 => ?_
  refine forLoopJ (DfI w c G Z ns l L I r P ro m many ltr msk) ?_ _ ⟨0, m, io, Z, [], 0, none, none, rfl, Nat.zero_le _, hJ, .refl _, fun _ _ _ => rfl, .nil, hS4⟩
  intro JJ jj E
  rintro k' s' ⟨i, m', io', Z', pvs, pn, c1, c2, rfl, hi, hJ', hle, hm', hp, hS'⟩
  refine next_it (itr_range hr.handled I 0 many) hS' hJ' hi trivial (fun a ha => by rw [hT] at ha; cases ha) ?_ ?_
  · rintro rfl s5 hS5
    refine wpAny_execs_nil ?_
    exact kk Z' m' pvs pn c1 c2 s5 hle hm' hp (hS5.sub (.refl _) (.cons _ (.refl _)))
  · intro hlt v io2 s5 hP hJ2 hS5
    obtain ⟨ti, rfl⟩ := hP
    have hlt : i < many := hlt
    rw [show (0 : Int) + (i : Int) * 1 = (i : Int) by omega]
    have hN5 := hle _ _ hN
    have hpl := hp.length
    rw [List.length_map, List.length_range] at hpl
    refine wpAny_pure ?_
    refine wpAny_assign_Name ?_
    refine stc hS5 (a := L + 1) (.tail (.tail (.tail .head))) fun s6 hS6 => ?_
    show wpAny (model PG w) A (execs (drFor w.params) (drEnv w L)) _ _ _
    rw [dr_for w]
    with_reducible refine wpAny_execs_cons ?_
    with_reducible refine dr_hide rfl (k := i) (by omega) hS6 (List.Mem.tail _ (List.Mem.tail _ (List.Mem.tail _ (List.Mem.head _)))) fun H hvs s7 hhv hS7 => ?_
    have hS8 := hS7.perm (l' := (L + 1, cellO (some (.int (i : Nat) ti))) :: (L + 2, cellO c2) :: (H, W.listOf hvs.toArray 0) :: (I, io2) :: (r, ro) :: (P, W.listOf pvs.toArray pn) :: l)
      ((List.perm_append_comm (l₁ := [(L + 1, cellO (some (.int (i : Nat) ti))), (L + 2, cellO c2)]) (l₂ := [(H, W.listOf hvs.toArray 0), (I, io2), (r, ro), (P, W.listOf pvs.toArray pn)])).append_right l)
    with_reducible refine wpAny_execs_cons ?_
    with_reducible refine dr_name rfl hr.handled (k := i) (by omega) hS8 (got ((hm' _ (by decide) (by decide)).trans hm1)) (got ((hm' _ (by decide) (by decide)).trans hm2)) (got ((hm' _ (by decide) (by decide)).trans hm3)) put hN5 hnv (List.Mem.head _) hhv fun ta tb s9 hS9 => ?_
    have hS10 := hS9.perm (l' := (P, W.listOf pvs.toArray pn) :: (L + 1, cellO (some (.int (i : Nat) ti))) :: (L + 2, cellO (some (.str (mkS (nameL (ltr / 6 ^ i % 6))) ta))) :: (H, W.listOf hvs.toArray 0) :: (I, io2) :: (r, ro) :: l)
      (List.perm_middle (a := (P, W.listOf pvs.toArray pn)) (l₁ := [(L + 1, cellO (some (.int (i : Nat) ti))), (L + 2, cellO (some (.str (mkS (nameL (ltr / 6 ^ i % 6))) ta))), (H, W.listOf hvs.toArray 0), (I, io2), (r, ro)]) (l₂ := l)).symm
    with_reducible refine wpAny_execs_cons ?_
    with_reducible refine dr_append rfl hr.handled hT (a := ltr / 6 ^ i % 6) (b := msk / 5 ^ i % 9) hS10 (by omega) put (got (got ((hm' _ (by decide) (by decide)).trans hm4))) fun Z2 x pn2 s11 hle2 hx hS11 => ?_
    have hS12 := hS11.sub (l' := (P, W.listOf (pvs ++ [x]).toArray pn2) :: (L + 1, cellO (some (.int (i : Nat) ti))) :: (L + 2, cellO (some (.str (mkS (nameL (ltr / 6 ^ i % 6))) ta))) :: (I, io2) :: (r, ro) :: l) (.refl _) (.cons_cons _ (.cons_cons _ (.cons_cons _ (.cons _ (.refl _)))))
    have hS13 := hS12.perm (l' := (I, io2) :: (r, ro) :: (P, W.listOf (pvs ++ [x]).toArray pn2) :: (L + 1, cellO (some (.int (i : Nat) ti))) :: (L + 2, cellO (some (.str (mkS (nameL (ltr / 6 ^ i % 6))) ta))) :: l)
      ((List.perm_append_comm (l₁ := [(I, io2), (r, ro)]) (l₂ := [(P, W.listOf (pvs ++ [x]).toArray pn2), (L + 1, cellO (some (.int (i : Nat) ti))), (L + 2, cellO (some (.str (mkS (nameL (ltr / 6 ^ i % 6))) ta)))])).append_right l)
    refine wpAny_execs_nil ?_
    refine ⟨many - (i + 1), by omega, jj _ _ ⟨i + 1, _, io2, Z2, _, _, _, _, rfl, hlt, hJ2, hle.trans hle2, fun y a b => ?_, ?_, hS13⟩⟩
    · rw [if_neg b, if_neg a]; exact hm' y a b
    · rw [List.range_succ, List.map_append]
      exact (hp.mono hle2).append hx
end
section
variable {w : World} {c : Ctx0} {G : Array GenState} {Z : Zone} {ns : List (Addr × (Str → Option Value))} {l : List (Addr × Obj)} {s : Shared} {A : Around} {E : Value → Shared → Prop}
/-- at = joins % (len(parts) - 1) -/
theorem dr_at {L P : Addr} {m : Str → Option Value} {pvs : List Value} {pn j : Nat} {tj : Tok} {Q : Flow → Shared → Prop} {st' : Stmt} (hst : st' = drW w.params 0)
    (hS : S w c G Z (((drEnv w L).locals, m) :: ns) l s) (hP : (P, W.listOf pvs.toArray pn) ∈ l) (hpl : pvs.length ≤ 100) (hpl2 : 2 ≤ pvs.length) (hm1 : m (Str.ofString "joins") = some (.int (j : Nat) tj)) (hm2 : m (Str.ofString "parts") = some (.ref P))
    (kk : ∀ t s', S w c G Z (((drEnv w L).locals, fun y => if y = Str.ofString "at" then some (.int (j % (pvs.length - 1) : Nat) t) else m y) :: ns) l s' → Q .next s') : wpAny (model PG w) A (exec st' (drEnv w L)) Q E s := by
  subst hst
  refine wpAny_Assign_Name ?_
  with_reducible refine wpAny_BinOp ?_
  with_reducible refine ld hS hm1 ?_
  with_reducible refine wpAny_BinOp ?_
  with_reducible refine callB (id := "len") ?_
  with_reducible refine is_ldb hS.toZ0 (by kernel_rfl) (by kernel_rfl) ?_
  with_reducible refine args_one ?_
  with_reducible refine ld hS hm2 ?_
  have hz := hS.own' hP
  have hsz : pvs.toArray.size ≤ 1000 := by rw [List.size_toArray]; omega
  with_reducible refine len_ok hS hz hsz fun t1 s1 hS1 => ?_
  rw [List.size_toArray]
  with_reducible refine con_int hS1 fun t2 s2 hS2 => ?_
  refine sub_int ?_
  rw [show ((pvs.length : Nat) : Int) - 1 = ((pvs.length - 1 : Nat) : Int) by omega]
  refine mod_int (by omega) ?_
  rw [fmod_nat]
  exact st ((hS2.toks (s2.toks + 1)).toks (s2.toks + 1 + 1)) fun s3 hS3 => kk _ s3 hS3
/-- joins = joins // 5 -/
theorem dr_joins {L : Addr} {m : Str → Option Value} {j : Nat} {tj : Tok} {Q : Flow → Shared → Prop} {st' : Stmt} (hst : st' = drW w.params 1)
    (hS : S w c G Z (((drEnv w L).locals, m) :: ns) l s) (hm1 : m (Str.ofString "joins") = some (.int (j : Nat) tj))
    (kk : ∀ t s', S w c G Z (((drEnv w L).locals, fun y => if y = Str.ofString "joins" then some (.int (j / 5 : Nat) t) else m y) :: ns) l s' → Q .next s') : wpAny (model PG w) A (exec st' (drEnv w L)) Q E s := by
  subst hst
  refine wpAny_Assign_Name ?_
  with_reducible refine wpAny_BinOp ?_
  with_reducible refine ld hS hm1 ?_
  with_reducible refine con_int hS fun t2 s2 hS2 => ?_
  refine floordiv_int (by decide) ?_ (.inl (PyProof.noPylong_small (by decide)))
  rw [show (5 : Int) = ((5 : Nat) : Int) from rfl, fdiv_nat]
  exact st (hS2.toks (s2.toks + 1)) fun s3 hS3 => kk _ s3 hS3
/-- one, two = (parts[at], parts[at + 1]) -/
theorem dr_two {L P b1 b2 : Addr} {m : Str → Option Value} {pvs : List Value} {pn i : Nat} {ti : Tok} {c3 c4 : Option Value} {Q : Flow → Shared → Prop} {st' : Stmt} (hst : st' = drW w.params 2) (hh : A.handled = none)
    (hS : S w c G Z (((drEnv w L).locals, m) :: ns) ((L + 3, cellO c3) :: (L + 4, cellO c4) :: l) s) (hP : (P, W.listOf pvs.toArray pn) ∈ l) (hpl : pvs.length ≤ 100) (hm1 : m (Str.ofString "at") = some (.int (i : Nat) ti)) (hm2 : m (Str.ofString "parts") = some (.ref P))
    (h1 : pvs[i]? = some (.ref b1)) (h2 : pvs[i + 1]? = some (.ref b2))
    (kk : ∀ s', S w c G Z (((drEnv w L).locals, m) :: ns) ((L + 3, cellO (some (.ref b1))) :: (L + 4, cellO (some (.ref b2))) :: l) s' → Q .next s') : wpAny (model PG w) A (exec st' (drEnv w L)) Q E s := by
  subst hst
  have hi : i + 1 < pvs.length := (List.getElem?_eq_some_iff.mp h2).1
  refine Assign_Tuple ?_ (by kernel_rfl) (by kernel_rfl)
  with_reducible refine mk_tuple ?_
  with_reducible refine args_cons ?_
  with_reducible refine Subscript_ ?_
  with_reducible refine ld hS hm2 ?_
  with_reducible refine ld hS hm1 ?_
  refine item_at (v := .ref b1) (hS.own' (.tail _ (.tail _ hP))) (by omega) (by omega) (by rw [Int.toNat_natCast, List.getElem?_toArray]; exact h1) ?_
  with_reducible refine args_one ?_
  with_reducible refine Subscript_ ?_
  with_reducible refine ld hS hm2 ?_
  with_reducible refine wpAny_BinOp ?_
  with_reducible refine ld hS hm1 ?_
  with_reducible refine con_int hS fun t1 s1 hS1 => ?_
  refine add_int ?_
  rw [show ((i : Nat) : Int) + 1 = ((i + 1 : Nat) : Int) by omega]
  have hS2 := hS1.toks (s1.toks + 1)
  refine item_at (v := .ref b2) (hS2.own' (.tail _ (.tail _ hP))) (by omega) (by omega) (by rw [Int.toNat_natCast, List.getElem?_toArray]; exact h2) ?_
  refine ⟨_, _, _, _, _, hS2, (by show 2 ≤ sizeLine; decide), fun T s5 hTc hS5 => ?_⟩
  refine wpAny_assign_Tuple hh (items := #[.ref b1, .ref b2]) ⟨_, hS5.own' (.head _), rfl, _, rfl⟩ rfl rfl (fun h' he' => ?_)
  have h1 : S w c G Z _ _ { s5 with heap := h' } := hS5.heapK fun b o e => he' b o (Nat.ne_of_lt (Heap.lt_size e)) e
  show wpAny (model PG w) A (do holding [.ref b2] (assign (.Name (Str.ofString "one") _) (drEnv w L) (.ref b1)); assignInOrder [assign (.Name (Str.ofString "two") _) (drEnv w L)] [.ref b2]) _ E _
  refine wpAny_bind (wpAny_holding (wpAny_assign_Name ?_))
  refine stc h1 (a := L + 3) (.tail .head) fun s6 hS6 => ?_
  show wpAny (model PG w) A (do assign (.Name (Str.ofString "two") _) (drEnv w L) (.ref b2); assignInOrder [] []) _ E _
  refine wpAny_bind (wpAny_assign_Name ?_)
  refine stc hS6 (a := L + 4) (.tail (.tail .head)) fun s7 hS7 => wpAny_pure ?_
  exact kk s7 (hS7.sub (.refl _) (.cons _ (.refl _)))
theorem isin_dt {v : Value} {d : Dt} {Q : Value → Shared → Prop} (h : S w c G Z ns l s) (ht : TreeAt Z v d.fm) (hq : ∀ s', S w c G Z ns l s' → Q (.bool d.isNode) s') : wpAny (model PG w) A (call (.builtin "isinstance") [v, .type "list"]) Q E s := by
  cases d with
  | leaf k a b => exact isin_tree h ht hq
  | node d1 d2 => exact isin_tree h ht hq
theorem wrap_len {d : Dt} {h : Nat → Nat → List Nat} : (if d.isNode then [40] ++ d.str h ++ [41] else d.str h).length ≤ (d.str h).length + 2 := by
  split <;> simp
/-- texts = [..] -/
theorem dr_texts {L b1 b2 : Addr} {m : Str → Option Value} {v1 v2 : Value} {d1 d2 : Dt} {t1 u1 t2 u2 : Tok} {n1 n2 : Nat} {Q : Flow → Shared → Prop} {st' : Stmt} (hst : st' = drW w.params 3) (hh : A.handled = none) (hT : c.T = [])
    (hS : S w c G Z (((drEnv w L).locals, m) :: ns) ((L + 3, cellO (some (.ref b1))) :: (L + 4, cellO (some (.ref b2))) :: l) s)
    (h1 : Z b1 = some (partO v1 (d1.str hideL) (d1.str showL) t1 u1 n1)) (h2 : Z b2 = some (partO v2 (d2.str hideL) (d2.str showL) t2 u2 n2)) (ht1 : TreeAt Z v1 d1.fm) (hl1 : d1.leaves.length ≤ 6) (hl2 : d2.leaves.length ≤ 6)
    (kk : ∀ D x y n s', S w c G Z (((drEnv w L).locals, fun z => if z = Str.ofString "texts" then some (.ref D) else m z) :: ns) ((D, W.listOf [Value.str (mkS ((Dt.node d1 d2).str hideL)) x, .str (mkS ((Dt.node d1 d2).str showL)) y].toArray n) :: (L + 3, cellO (some (.ref b1))) :: (L + 4, cellO (some (.ref b2))) :: l) s' → Q .next s') :
    wpAny (model PG w) A (exec st' (drEnv w L)) Q E s := by
  subst hst
  have g1 := d1.str_len hideL_len
  have g2 := d1.str_len showL_len
  have g3 := d2.str_len hideL_len
  have g4 := d2.str_len showL_len
  refine comp_asg (cl := [(Str.ofString "two", L + 4), (Str.ofString "one", L + 3)]) ?_
  with_reducible refine mk_tuple ?_
  with_reducible refine args_cons ?_
  with_reducible refine con_int hS fun t3 s3 hS3 => ?_
  with_reducible refine args_one ?_
  with_reducible refine con_int hS3 fun t4 s4 hS4 => ?_
  refine ⟨_, _, _, _, _, hS4, (by show 2 ≤ sizeLine; decide), fun T s5 hTc hS5 => ?_⟩
  refine iter_tuple hS5 (hS5.own' (.head _)) fun I io s6 hne hJ hIc hS6 => ?_
  refine ⟨c, G, Z, _, ns, _, I, io, kTuple T [.int 1 t3, .int 2 t4], fun i ys Z' => StrsV ys (([mkS ((Dt.node d1 d2).str hideL), mkS ((Dt.node d1 d2).str showL)]).take i) ∧ Z' = Z, rfl, itr_tuple hh I T hne _, hJ, (by show 2 ≤ 10000; decide), hS6, (fun a ha => by rw [hT] at ha; cases ha), ⟨.nil, rfl⟩, (fun Z' ns' a b s hS' _ => ⟨_, hS'.own' (.tail _ (.tail _ (.head _))), rfl, _, rfl⟩), ?_, ?_⟩
  · intro C D2 i v ys Z' m' k' io' s8 E' hi hP hJ' hI hle hS8
    obtain ⟨hI, rfl⟩ := hI
    have hi : i < 2 := hi
    have hh5 : ∃ (h : Nat → Nat → List Nat) (j : Nat) (tv ta tb : Tok), v = .int (j : Nat) tv ∧ (d1.str h).length ≤ 66 ∧ (d2.str h).length ≤ 66 ∧ #[v1, .str (mkS (d1.str hideL)) t1, .str (mkS (d1.str showL)) u1][j]? = some (Value.str (mkS (d1.str h)) ta) ∧ #[v2, .str (mkS (d2.str hideL)) t2, .str (mkS (d2.str showL)) u2][j]? = some (Value.str (mkS (d2.str h)) tb) ∧ j ≤ 2 ∧
        [mkS ((Dt.node d1 d2).str hideL), mkS ((Dt.node d1 d2).str showL)][i]? = some (mkS ((Dt.node d1 d2).str h)) := by
      have hP : [Value.int 1 t3, .int 2 t4][i]? = some v := hP
      rcases i with _ | _ | i
      · injection hP with hP; exact ⟨hideL, 1, t3, t1, t2, hP.symm, by omega, by omega, rfl, rfl, by decide, rfl⟩
      · injection hP with hP; exact ⟨showL, 2, t4, u1, u2, hP.symm, by omega, by omega, rfl, rfl, by decide, rfl⟩
      · omega
    obtain ⟨h, j, tv, ta, tb, rfl, q1, q2, e1, e2, hj, hat⟩ := hh5
    refine wpAny_pure ?_
    refine wpAny_assign_Name (st hS8 fun s9 hS9 => ?_)
    refine wpAny_pure ?_
    rw [if_pos rfl]
    refine absQ fun Q5 hQ5 => ?_
    have mo : (L + 3, cellO (some (.ref b1))) ∈ (I, io') :: (D2, W.listOf ys.toArray k') :: (T, tupObj [.int 1 t3, .int 2 t4]) :: (L + 3, cellO (some (.ref b1))) :: (L + 4, cellO (some (.ref b2))) :: l := .tail _ (.tail _ (.tail _ (.head _)))
    have mt : (L + 4, cellO (some (.ref b2))) ∈ (I, io') :: (D2, W.listOf ys.toArray k') :: (T, tupObj [.int 1 t3, .int 2 t4]) :: (L + 3, cellO (some (.ref b1))) :: (L + 4, cellO (some (.ref b2))) :: l := .tail _ (.tail _ (.tail _ (.tail _ (.head _))))
    with_reducible refine wpAny_BinOp ?_
    with_reducible refine wpAny_BinOp ?_
    refine wpAny_mono (Q := fun v s' => ∃ t, v = .str (mkS (if d1.isNode then [40] ++ d1.str h ++ [41] else d1.str h)) t ∧ S w c G Z' ((C, fun y => if y = Str.ofString "n" then some (.int (j : Nat) tv) else m' y) :: ((drEnv w L).locals, m) :: ns) ((I, io') :: (D2, W.listOf ys.toArray k') :: (T, tupObj [.int 1 t3, .int 2 t4]) :: (L + 3, cellO (some (.ref b1))) :: (L + 4, cellO (some (.ref b2))) :: l) s') ?_ (fun v s2 h2 => ?_) (fun _ _ x => x)
    · refine wpAny_IfExp ?_
      with_reducible refine isTrue_plain ?_ (by kernel_rfl)
      with_reducible refine callB (id := "isinstance") ?_
      with_reducible refine is_ldb hS9.toZ0 (by kernel_rfl) (by kernel_rfl) ?_
      with_reducible refine args_cons ?_
      with_reducible refine Subscript_ ?_
      with_reducible refine ldc hS9 (a := L + 3) mo ?_
      with_reducible refine con_int hS9 fun t10 s10 hS10 => ?_
      refine item_at (v := v1) (hS10.z _ _ h1) (by decide) (by decide) rfl ?_
      with_reducible refine args_one ?_
      with_reducible refine ldb hS10.toZ0 (v := .type "list") (by kernel_rfl) (by kernel_rfl) ?_
      refine isin_dt hS10 ht1 fun s11 hS11 => wpAny_truthy_bool ?_
      by_cases q : d1.isNode = true
      · rw [if_pos q, if_pos q]
        with_reducible refine wpAny_BinOp ?_
        with_reducible refine wpAny_BinOp ?_
        with_reducible refine con_str hS11 fun t12 s12 hS12 => ?_
        with_reducible refine Subscript_ ?_
        with_reducible refine ldc hS12 (a := L + 3) mo ?_
        with_reducible refine ld hS12 (v := .int (j : Nat) tv) ?_ ?_
        · walk_at "lk"
        refine item_at (v := .str (mkS (d1.str h)) ta) (hS12.z _ _ h1) (by omega) (by omega) (by rw [Int.toNat_natCast]; exact e1) ?_
        rw [show Str.ofString "(" = mkS [40] from by decide +kernel]
        refine add_str' hS12 (by rw [mkS_len, mkS_len, sizeLine_eq]; simp; omega) fun t13 s13 hS13 => ?_
        rw [mkS_append]
        with_reducible refine con_str hS13 fun t14 s14 hS14 => ?_
        rw [show Str.ofString ")" = mkS [41] from by decide +kernel]
        refine add_str' hS14 (by rw [mkS_len, mkS_len, sizeLine_eq]; simp; omega) fun t15 s15 hS15 => ?_
        rw [mkS_append]
        exact ⟨t15, rfl, hS15⟩
      · rw [if_neg q, if_neg q]
        with_reducible refine Subscript_ ?_
        with_reducible refine ldc hS11 (a := L + 3) mo ?_
        with_reducible refine ld hS11 (v := .int (j : Nat) tv) ?_ ?_
        · walk_at "lk"
        refine item_at (v := .str (mkS (d1.str h)) ta) (hS11.z _ _ h1) (by omega) (by omega) (by rw [Int.toNat_natCast]; exact e1) ?_
        exact ⟨ta, rfl, hS11⟩
    obtain ⟨t9, rfl, hS10⟩ := h2
    have hw := wrap_len (d := d1) (h := h)
    with_reducible refine con_str hS10 fun t11 s11 hS11 => ?_
    rw [show Str.ofString "->" = mkS [45, 62] from by decide +kernel]
    refine add_str' hS11 (by rw [mkS_len, mkS_len, sizeLine_eq]; simp only [List.length_cons, List.length_nil]; omega) fun t13 s13 hS13 => ?_
    rw [mkS_append]
    with_reducible refine Subscript_ ?_
    with_reducible refine ldc hS13 (a := L + 4) mt ?_
    with_reducible refine ld hS13 (v := .int (j : Nat) tv) ?_ ?_
    · walk_at "lk"
    refine item_at (v := .str (mkS (d2.str h)) tb) (hS13.z _ _ h2) (by omega) (by omega) (by rw [Int.toNat_natCast]; exact e2) ?_
    refine add_str' hS13 (by rw [mkS_len, mkS_len, sizeLine_eq, List.length_append]; simp only [List.length_cons, List.length_nil]; omega) fun t15 s15 hS15 => ?_
    rw [mkS_append]
    refine hQ5 _ _ ⟨Z', _, hle, hS15, ?_, rfl⟩
    rw [List.take_add_one, hat]
    exact hI.snoc _ _
  · intro D3 ys Z' kn s8 hD3 hI hle hS8
    obtain ⟨hI, rfl⟩ := hI
    have hI : StrsV ys [mkS ((Dt.node d1 d2).str hideL), mkS ((Dt.node d1 d2).str showL)] := hI
    cases hI with
    | cons x t h1 =>
      cases h1 with
      | cons y t' h2 =>
        cases h2
        exact kk D3 t t' kn s8 (hS8.sub (.refl _) (.cons_cons _ (.cons _ (.refl _))))
end
section
variable {w : World} {c : Ctx0} {G : Array GenState} {Z : Zone} {ns : List (Addr × (Str → Option Value))} {l : List (Addr × Obj)} {s : Shared} {A : Around} {E : Value → Shared → Prop}
/-- parts = parts[:at] + [[[one[0], two[0]]] + texts] + parts[at + 2:] -/
theorem dr_parts4 {L P b1 b2 D : Addr} {m : Str → Option Value} {v1 v2 : Value} {x1 y1 x2 y2 : List Nat} {pvs tvs : List Value} {pn tn i n1 n2 : Nat} {ti t1 u1 t2 u2 : Tok} {Q : Flow → Shared → Prop} {st' : Stmt} (hst : st' = drW w.params 4)
    (hS : S w c G Z (((drEnv w L).locals, m) :: ns) ((D, W.listOf tvs.toArray tn) :: (L + 3, cellO (some (.ref b1))) :: (L + 4, cellO (some (.ref b2))) :: l) s) (hP : (P, W.listOf pvs.toArray pn) ∈ l) (hpl : pvs.length ≤ 100) (htl : tvs.length ≤ 10) (hi : i ≤ 100)
    (hm1 : m (Str.ofString "at") = some (.int (i : Nat) ti)) (hm2 : m (Str.ofString "parts") = some (.ref P)) (hm3 : m (Str.ofString "texts") = some (.ref D))
    (h1 : Z b1 = some (W.listOf #[v1, .str (mkS x1) t1, .str (mkS y1) u1] n1)) (h2 : Z b2 = some (W.listOf #[v2, .str (mkS x2) t2, .str (mkS y2) u2] n2))
    (kk : ∀ P' T N s' Z', Z.le Z' → Z' T = some (W.listOf #[v1, v2] 0) → Z' N = some (W.listOf (Value.ref T :: tvs).toArray 0) →
      S w c G Z' (((drEnv w L).locals, fun y => if y = Str.ofString "parts" then some (.ref P') else m y) :: ns) ((P', W.listOf (pvs.take i ++ [Value.ref N] ++ pvs.drop (i + 2)).toArray 0) :: (L + 3, cellO (some (.ref b1))) :: (L + 4, cellO (some (.ref b2))) :: l) s' → Q .next s') :
    wpAny (model PG w) A (exec st' (drEnv w L)) Q E s := by
  subst hst
  refine wpAny_Assign_Name ?_
  with_reducible refine wpAny_BinOp ?_
  with_reducible refine wpAny_BinOp ?_
  with_reducible refine sl_listE ?_
  with_reducible refine ld hS hm2 ?_
  refine part_none (part_some ?_)
  with_reducible refine ld hS hm1 ?_
  refine ⟨P, pvs, pn, none, some (((i : Nat) : Int), ti), rfl, rfl, rfl, c, G, Z, _, _, hS, hS.own' (.tail _ (.tail _ (.tail _ hP))), by rw [sizeLine_eq]; omega, fun U s1 hU hS1 => ?_⟩
  rw [show slicePick pvs.toArray (Option.map (·.1) (none : Option (Int × Tok))) (Option.map (·.1) (some (((i : Nat) : Int), ti))) none = (pvs.take i).toArray from slicePick_upto' _ _] at hS1
  with_reducible refine mk_list ?_
  with_reducible refine args_one ?_
  with_reducible refine wpAny_BinOp ?_
  with_reducible refine mk_list ?_
  with_reducible refine args_one ?_
  with_reducible refine mk_list ?_
  with_reducible refine args_cons ?_
  with_reducible refine Subscript_ ?_
  with_reducible refine ldc hS1 (a := L + 3) (v := .ref b1) (List.Mem.tail _ (List.Mem.tail _ (List.Mem.head _))) ?_
  with_reducible refine con_int hS1 fun t3 s3 hS3 => ?_
  refine item_at (v := v1) (hS3.z _ _ h1) (by decide) (by decide) rfl ?_
  with_reducible refine args_one ?_
  with_reducible refine Subscript_ ?_
  with_reducible refine ldc hS3 (a := L + 4) (v := .ref b2) (List.Mem.tail _ (List.Mem.tail _ (List.Mem.tail _ (List.Mem.head _)))) ?_
  with_reducible refine con_int hS3 fun t4 s4 hS4 => ?_
  refine item_at (v := v2) (hS4.z _ _ h2) (by decide) (by decide) rfl ?_
  refine ⟨_, _, _, _, _, hS4, (by show 2 ≤ sizeLine; decide), fun T s5 hT5 hS5 => ?_⟩
  have hzT := hS5.zo T (List.mem_append_right _ (.head _))
  have hS6 := hS5.freeze hT5
  refine ⟨_, _, _, _, _, hS6, (by show 1 ≤ sizeLine; decide), fun O s7 hO hS7 => ?_⟩
  have hm3' := hm3
  with_reducible refine ld hS7 hm3 ?_
  refine add_own hS7 (vs := [Value.ref T]) (ws := tvs) (hS7.own' (.head _)) (hS7.own' (.tail _ (.tail _ (.head _)))) (by rw [sizeLine_eq]; simp only [List.length_cons, List.length_nil]; omega) fun N s8 hN hS8 => ?_
  have hzN := hS8.zo N (List.mem_append_right _ (.head _))
  have hS9 := hS8.freeze hN
  refine ⟨_, _, _, _, _, hS9, (by show 1 ≤ sizeLine; decide), fun M s10 hM hS10 => ?_⟩
  have hlt : (pvs.take i).length ≤ 100 := by rw [List.length_take]; omega
  refine add_own hS10 (vs := pvs.take i) (ws := [Value.ref N]) (hS10.own' (.tail _ (.tail _ (.head _)))) (hS10.own' (.head _)) (by rw [sizeLine_eq]; simp only [List.length_cons, List.length_nil]; omega) fun V s11 hV hS11 => ?_
  with_reducible refine sl_listE ?_
  with_reducible refine ld hS11 hm2 ?_
  refine part_some ?_
  with_reducible refine wpAny_BinOp ?_
  with_reducible refine ld hS11 hm1 ?_
  with_reducible refine con_int hS11 fun t12 s12 hS12 => ?_
  refine add_int ?_
  rw [show ((i : Nat) : Int) + 2 = ((i + 2 : Nat) : Int) by omega]
  have hS13 := hS12.toks (s12.toks + 1)
  refine part_none ?_
  refine ⟨P, pvs, pn, some (((i + 2 : Nat) : Int), _), none, rfl, rfl, rfl, _, _, _, _, _, hS13, hS13.own' (.tail _ (.tail _ (.tail _ (.tail _ (.tail _ (.tail _ (.tail _ hP))))))), by rw [sizeLine_eq]; omega, fun W1 s14 hW hS14 => ?_⟩
  rw [show slicePick pvs.toArray (Option.map (·.1) (some (((i + 2 : Nat) : Int), s12.toks))) (Option.map (·.1) (none : Option (Int × Tok))) none = (pvs.drop (i + 2)).toArray from slicePick_from' _ _] at hS14
  have hld : (pvs.drop (i + 2)).length ≤ 100 := by rw [List.length_drop]; omega
  refine add_own hS14 (vs := pvs.take i ++ [Value.ref N]) (ws := pvs.drop (i + 2)) (hS14.own' (.tail _ (.head _))) (hS14.own' (.head _)) (by rw [sizeLine_eq, List.length_append]; simp only [List.length_cons, List.length_nil]; omega) fun X s15 hX hS15 => ?_
  refine st hS15 fun s16 hS16 => ?_
  refine kk X T N s16 _ ((Zone.put_le _ hzT).trans (Zone.put_le _ hzN)) ?_ Zone.put_self (hS16.sub (.refl _) (.cons_cons _ (.cons _ (.cons _ (.cons _ (.cons _ (.cons _ (.cons _ (.refl _)))))))))
  exact Zone.put_le _ hzN _ _ Zone.put_self
end
noncomputable def leavesOf (many ltr msk : Nat) : List (Nat × Nat × Nat) := (List.range many).map fun k => (k, ltr / 6 ^ k % 6, msk / 5 ^ k % 9)
theorem leaves_start (many ltr msk : Nat) : ((List.range many).map (leafD ltr msk)).flatMap Dt.leaves = leavesOf many ltr msk := by
  unfold leavesOf
  have : ∀ l : List Nat, (l.map (leafD ltr msk)).flatMap Dt.leaves = l.map fun k => (k, ltr / 6 ^ k % 6, msk / 5 ^ k % 9) := by
    intro l
    induction l with
    | nil => rfl
    | cons a l ih => rw [List.map_cons, List.flatMap_cons, ih]; rfl
  exact this _
theorem split_two {α : Type} {l : List α} {i : Nat} {a b : α} (h1 : l[i]? = some a) (h2 : l[i + 1]? = some b) : l = l.take i ++ a :: b :: l.drop (i + 2) := by
  obtain ⟨hlt1, e1⟩ := List.getElem?_eq_some_iff.mp h1
  obtain ⟨hlt2, e2⟩ := List.getElem?_eq_some_iff.mp h2
  have : l.take i ++ l.drop i = l := List.take_append_drop i l
  rw [List.drop_eq_getElem_cons hlt1, e1, List.drop_eq_getElem_cons hlt2, e2] at this
  exact this.symm
theorem join_leaves {ds : List Dt} {i : Nat} {d1 d2 : Dt} (h1 : ds[i]? = some d1) (h2 : ds[i + 1]? = some d2) : (ds.take i ++ [Dt.node d1 d2] ++ ds.drop (i + 2)).flatMap Dt.leaves = ds.flatMap Dt.leaves := by
  conv => rhs; rw [split_two h1 h2]
  rw [List.flatMap_append, List.flatMap_append, List.flatMap_append, List.flatMap_cons, List.flatMap_cons, List.flatMap_cons, List.flatMap_nil, List.append_nil]
  show _ ++ (d1.leaves ++ d2.leaves) ++ _ = _
  simp only [List.append_assoc]
theorem ds_len : ∀ {ds : List Dt} {d : Dt}, d ∈ ds → d.leaves.length ≤ (ds.flatMap Dt.leaves).length
  | e :: ds, d, h => by
    rw [List.flatMap_cons, List.length_append]
    rcases List.mem_cons.mp h with rfl | h
    · omega
    · have := ds_len h; omega
theorem leaves_pos : ∀ d : Dt, 1 ≤ d.leaves.length
  | .leaf .. => Nat.le_refl 1
  | .node l r => by
    have := leaves_pos l
    unfold Dt.leaves
    rw [List.length_append]; omega
theorem ds_num : ∀ ds : List Dt, ds.length ≤ (ds.flatMap Dt.leaves).length
  | [] => Nat.le_refl _
  | d :: ds => by
    have h1 := ds_num ds
    have h2 := leaves_pos d
    rw [List.flatMap_cons, List.length_append, List.length_cons]; omega
section
variable {w : World} {c : Ctx0} {G : Array GenState} {Z : Zone} {ns : List (Addr × (Str → Option Value))} {l : List (Addr × Obj)} {s : Shared} {A : Around} {E : Value → Shared → Prop}
inductive DwI (w : World) (c : Ctx0) (G : Array GenState) (Z : Zone) (ns : List (Addr × (Str → Option Value))) (l : List (Addr × Obj)) (L : Addr) (ds : List Dt) (n : Nat) (s' : Shared) : Prop
  | mk (Z' : Zone) (m' : Str → Option Value) (P' : Addr) (pvs' : List Value) (ds' : List Dt) (pn' j' : Nat) (tj' : Tok) (c3 c4 : Option Value) (h1 : n = ds'.length) (h2 : Z.le Z') (h3 : m' (Str.ofString "joins") = some (.int (j' : Nat) tj')) (h4 : m' (Str.ofString "parts") = some (.ref P'))
      (h5 : PartsAt Z' pvs' ds') (h6 : ds'.flatMap Dt.leaves = ds.flatMap Dt.leaves) (h7 : 1 ≤ ds'.length) (hS : S w c G Z' (((drEnv w L).locals, m') :: ns) ((L + 3, cellO c3) :: (L + 4, cellO c4) :: (P', W.listOf pvs'.toArray pn') :: l) s') : DwI w c G Z ns l L ds n s'
/-- while len(parts) > 1 -/
theorem dr_while_ok {L P : Addr} {m : Str → Option Value} {pvs : List Value} {ds : List Dt} {pn j : Nat} {tj : Tok} {Q : Flow → Shared → Prop} {st' : Stmt} (hst : st' = drAt w.params 3) (hh : A.handled = none) (hT : c.T = [])
    (hS : S w c G Z (((drEnv w L).locals, m) :: ns) ((L + 3, cellO none) :: (L + 4, cellO none) :: (P, W.listOf pvs.toArray pn) :: l) s)
    (hm1 : m (Str.ofString "joins") = some (.int (j : Nat) tj)) (hm2 : m (Str.ofString "parts") = some (.ref P)) (hp : PartsAt Z pvs ds) (hlv : (ds.flatMap Dt.leaves).length ≤ 6) (hne : 1 ≤ ds.length)
    (kk : ∀ Z' m' P' v d pn' s' c3 c4, Z.le Z' → m' (Str.ofString "parts") = some (.ref P') → PartsAt Z' [v] [d] → d.leaves = ds.flatMap Dt.leaves → S w c G Z' (((drEnv w L).locals, m') :: ns) ((L + 3, cellO c3) :: (L + 4, cellO c4) :: (P', W.listOf [v].toArray pn') :: l) s' → Q .next s') :
    wpAny (model PG w) A (exec st' (drEnv w L)) Q E s := by
  subst hst
  refine wpAny_While ?_
  refine whileLoopJ (DwI w c G Z ns l L ds) ?_ ds.length ⟨Z, m, P, pvs, ds, pn, j, tj, none, none, rfl, Zone.le.refl _, hm1, hm2, hp, rfl, hne, hS⟩
  intro JJ jj E
  rintro n s1 ⟨Z', m', P', pvs', ds', pn', j', tj', c3, c4, rfl, hle, hm1, hm2, hp', hlv', hne', hS1⟩
  have hnum := ds_num ds'
  rw [hlv'] at hnum
  have hpl := hp'.length
  with_reducible refine wpAny_isTrue_Compare1 ?_ (by kernel_rfl)
  with_reducible refine callB (id := "len") ?_
  with_reducible refine is_ldb hS1.toZ0 (by kernel_rfl) (by kernel_rfl) ?_
  with_reducible refine args_one ?_
  with_reducible refine ld hS1 hm2 ?_
  have hz := hS1.own' (.tail _ (.tail _ (.head _)))
  with_reducible refine len_ok hS1 hz (by rw [List.size_toArray]; omega) fun t2 s2 hS2 => ?_
  rw [List.size_toArray]
  with_reducible refine con_int hS2 fun t3 s3 hS3 => ?_
  refine PyProof.Rows.gt_int (wpAny_truthy_bool ?_)
  by_cases q : ds'.length ≤ 1
  · rw [show decide ((1 : Int) < ((pvs'.length : Nat) : Int)) = false from decide_eq_false (by omega)]
    refine wpAny_execs_nil ?_
    obtain ⟨d, rfl⟩ : ∃ d, ds' = [d] := List.length_eq_one_iff.mp (by omega)
    obtain ⟨v, rfl⟩ : ∃ v, pvs' = [v] := List.length_eq_one_iff.mp (by omega)
    refine kk Z' m' P' v d pn' s3 c3 c4 hle hm2 hp' ?_ hS3
    rw [← hlv', List.flatMap_cons, List.flatMap_nil, List.append_nil]
  · rw [show decide ((1 : Int) < ((pvs'.length : Nat) : Int)) = true from decide_eq_true (by omega)]
    show wpAny (model PG w) A (execs (drWhile w.params) (drEnv w L)) _ _ _
    rw [dr_while w]
    with_reducible refine wpAny_execs_cons ?_
    with_reducible refine dr_at rfl hS3 (List.Mem.tail _ (List.Mem.tail _ (List.Mem.head _))) (by omega) (by omega) hm1 hm2 fun t4 s4 hS4 => ?_
    have hi : j' % (pvs'.length - 1) + 1 < ds'.length := by
      have := Nat.mod_lt j' (show 0 < pvs'.length - 1 by omega)
      omega
    generalize j' % (pvs'.length - 1) = i at hi hS4
    with_reducible refine wpAny_execs_cons ?_
    with_reducible refine dr_joins rfl hS4 (got hm1 (by decide)) fun t5 s5 hS5 => ?_
    obtain ⟨b1, v1, d1, x1, y1, n1, e1, f1, g1, k1⟩ := hp'.at (i := i) (by omega)
    obtain ⟨b2, v2, d2, x2, y2, n2, e2, f2, g2, k2⟩ := hp'.at (i := i + 1) hi
    have hd1 := ds_len (List.mem_of_getElem? f1)
    have hd2 := ds_len (List.mem_of_getElem? f2)
    rw [hlv'] at hd1 hd2
    with_reducible refine wpAny_execs_cons ?_
    with_reducible refine dr_two rfl hh hS5 (List.Mem.head _) (by omega) (got put (by decide)) (got (got hm2 (by decide)) (by decide)) e1 e2 fun s6 hS6 => ?_
    with_reducible refine wpAny_execs_cons ?_
    with_reducible refine dr_texts rfl hh hT hS6 g1 g2 k1 (by omega) (by omega) fun D x y dn s7 hS7 => ?_
    have g1' : Z' b1 = some (W.listOf #[v1, .str (mkS (d1.str hideL)) x1, .str (mkS (d1.str showL)) y1] n1) := g1
    have g2' : Z' b2 = some (W.listOf #[v2, .str (mkS (d2.str hideL)) x2, .str (mkS (d2.str showL)) y2] n2) := g2
    with_reducible refine wpAny_execs_cons ?_
    with_reducible refine dr_parts4 rfl hS7 (List.Mem.head _) (by omega) (by simp) (i := i) (by omega) (got (got put (by decide)) (by decide)) (got (got (got hm2 (by decide)) (by decide)) (by decide)) put g1' g2' fun P2 T N s8 Z2 hle2 hT2 hN2 hS8 => ?_
    refine wpAny_execs_nil ?_
    have hS9 := hS8.sub (l' := (P2, W.listOf (pvs'.take i ++ [Value.ref N] ++ pvs'.drop (i + 2)).toArray 0) :: (L + 3, cellO (some (.ref b1))) :: (L + 4, cellO (some (.ref b2))) :: l) (.refl _) (.cons_cons _ (.cons_cons _ (.cons_cons _ (.cons _ (.refl _)))))
    have hS10 := hS9.perm (l' := (L + 3, cellO (some (.ref b1))) :: (L + 4, cellO (some (.ref b2))) :: (P2, W.listOf (pvs'.take i ++ [Value.ref N] ++ pvs'.drop (i + 2)).toArray 0) :: l)
      ((List.perm_middle (a := (P2, W.listOf (pvs'.take i ++ [Value.ref N] ++ pvs'.drop (i + 2)).toArray 0)) (l₁ := [(L + 3, cellO (some (.ref b1))), (L + 4, cellO (some (.ref b2)))]) (l₂ := l)))
    refine ⟨(ds'.take i ++ [Dt.node d1 d2] ++ ds'.drop (i + 2)).length, ?_, jj _ _ ⟨Z2, _, P2, _, _, _, _, _, _, _, rfl, hle.trans hle2, (by walk_at "lk" : _ = some (Value.int ((j' / 5 : Nat) : Int) t5)), put, ?_, ?_, ?_, hS10⟩⟩
    · rw [List.length_append, List.length_append, List.length_take, List.length_drop, List.length_singleton]; omega
    · have hpm := hp'.mono hle2
      refine ((hpm.take i).append ?_).append (hpm.drop (i + 2))
      exact .cons (v := .ref T) (d := Dt.node d1 d2) (t := x) (u := y) (n := 0) hN2 (.node hT2 (k1.mono hle2) (k2.mono hle2)) .nil
    · rw [join_leaves f1 f2, hlv']
    · rw [List.length_append, List.length_append, List.length_singleton]; omega
/-- _law_drawn(many, letters, joins, mask) -/
theorem drawn_ok {many ltr j msk : Nat} {t0 t1 t2 t3 : Tok} {Q : Value → Shared → Prop} (hr : Rm A 11) (h : Z0 w c G Z s) (hmany : many ≤ 6) (hmany1 : 1 ≤ many)
    (k : ∀ (b : Addr) (v : Value) (d : Dt) (t u : Tok) (n : Nat) (s' : Shared) (Z' : Zone), Z0 w ⟨c.H, s, [], Z⟩ G Z' s' → Z' b = some (partO v (d.str hideL) (d.str showL) t u n) → TreeAt Z' v d.fm → d.leaves = leavesOf many ltr msk → Q (.ref b) s') :
    wpAny (model PG w) A (call (.ref 222) [.int (many : Nat) t0, .int (ltr : Nat) t1, .int (j : Nat) t2, .int (msk : Nat) t3]) Q E s := by
  have h1 : (KF w).lookup 222 = some (obAt w.params 222) := by kernel_rfl
  have h2 : (obAt w.params 222).data = .func (fdAt w.params 222) := by kernel_rfl
  have h3 : codeIn (KF w) (fdAt w.params 222).code (fdAt w.params 222).qualname = true := by kernel_rfl
  have h4 : (fdAt w.params 222).body = .stmts (bodyAt w.params 222) := by kernel_rfl
  have h5 : bindArgs (fdAt w.params 222) ⟨[.int (many : Nat) t0, .int (ltr : Nat) t1, .int (j : Nat) t2, .int (msk : Nat) t3], []⟩ = pure [(Str.ofString "many", .int (many : Nat) t0), (Str.ofString "letters", .int (ltr : Nat) t1), (Str.ofString "joins", .int (j : Nat) t2), (Str.ofString "mask", .int (msk : Nat) t3)] := by kernel_rfl
  refine wpAny_call ?_
  with_reducible refine enterN (fun y => if y = Str.ofString "mask" then some (.int (msk : Nat) t3) else (fun y => if y = Str.ofString "joins" then some (.int (j : Nat) t2) else (fun y => if y = Str.ofString "letters" then some (.int (ltr : Nat) t1) else (fun y => if y = Str.ofString "many" then some (.int (many : Nat) t0) else none) y) y) y) (fun L => [(L + 4, cellO none), (L + 3, cellO none), (L + 2, cellO none), (L + 1, cellO none)]) (n := 10) hr h.kin h h1 h2 h3 h4 (bind_pure h5) (by kernel_rfl) (by kernel_rfl) ?_
  intro L s1 hS1 hr1
  rw [dr_parts w]
  with_reducible refine wpAny_execs_cons ?_
  refine dr_names rfl hS1 fun Nm nvs s2 hN hnv hS2 => ?_
  have hzN := hS2.zo Nm (List.mem_append_right _ (.head _))
  have hS3 := hS2.freeze hN
  with_reducible refine wpAny_execs_cons ?_
  refine wpAny_Assign_Name ?_
  with_reducible refine mk_list ?_
  with_reducible refine args_nil ?_
  refine ⟨_, _, _, _, _, hS3, (by show 0 ≤ sizeLine; decide), fun P s4 hP hS4 => ?_⟩
  refine st hS4 fun s5 hS5 => ?_
  have hS6 := hS5.perm (l' := (P, W.listOf ([] : List Value).toArray 0) :: (L + 1, cellO none) :: (L + 2, cellO none) :: (L + 3, cellO none) :: (L + 4, cellO none) :: []) (by
    refine .cons _ ?_
    exact (List.reverse_perm [(L + 4, cellO none), (L + 3, cellO none), (L + 2, cellO none), (L + 1, cellO none)]))
  with_reducible refine wpAny_execs_cons ?_
  refine dr_for_ok rfl hr1 rfl hmany hS6 (t0 := t0) (t1 := t1) (t2 := t3) (ltr := ltr) (msk := msk) (Nm := Nm) (nvs := nvs) ?_ ?_ ?_ ?_ put Zone.put_self hnv fun Z2 m2 pvs pn c1 c2 s7 hle2 hm2 hp hS7 => ?_
  · walk_at "lk"
  · walk_at "lk"
  · walk_at "lk"
  · walk_at "lk"
  have hS8 := hS7.perm (l' := (L + 3, cellO none) :: (L + 4, cellO none) :: (P, W.listOf pvs.toArray pn) :: (L + 1, cellO c1) :: (L + 2, cellO c2) :: [])
    (List.perm_append_comm (l₁ := [(L + 3, cellO none), (L + 4, cellO none)]) (l₂ := [(P, W.listOf pvs.toArray pn), (L + 1, cellO c1), (L + 2, cellO c2)]))
  with_reducible refine wpAny_execs_cons ?_
  refine dr_while_ok rfl hr1.handled rfl (j := j) (tj := t2) hS8 ?_ ?_ hp ?_ ?_ fun Z3 m3 P3 v d pn3 s9 c3 c4 hle3 hm3 hpv hdl hS9 => ?_
  · rw [hm2 _ (by decide) (by decide)]; walk_at "lk"
  · rw [hm2 _ (by decide) (by decide)]; walk_at "lk"
  · rw [leaves_start]; unfold leavesOf; rw [List.length_map, List.length_range]; exact hmany
  · rw [List.length_map, List.length_range]; exact hmany1
  with_reducible refine wpAny_execs_cons ?_
  refine wpAny_Return_some ?_
  with_reducible refine Subscript_ ?_
  with_reducible refine ld hS9 hm3 ?_
  with_reducible refine con_int hS9 fun t10 s10 hS10 => ?_
  refine item_at (v := v) (hS10.own' (.tail _ (.tail _ (.head _)))) (by decide) (by decide) rfl ?_
  cases hpv with
  | cons hz ht _ => exact k _ _ _ _ _ _ _ _ hS10.toZ0 hz ht (hdl.trans (leaves_start many ltr msk))
end
/-! ### worlds -/
noncomputable def condW (a L R : Nat) : Bool := Nat.beq (Nat.land (Nat.land a L) R) (Nat.land a L)
noncomputable def impF : List Nat → Nat → Nat → Nat → Nat
  | [], _, _, _ => 0
  | a :: as, p, L, R => bif condW a L R then p + impF as (2 * p) L R else impF as (2 * p) L R
theorem condW_eq (a L R : Nat) : condW a L R = (((a &&& L) &&& R) == (a &&& L)) := by
  rw [Bool.eq_iff_iff, beq_iff_eq]
  constructor
  · intro h; exact Nat.eq_of_beq_eq_true h
  · intro h
    show Nat.beq ((a &&& L) &&& R) (a &&& L) = true
    rw [h]; exact Nat.beq_refl _
theorem impF_sum (L R : Nat) : ∀ (as : List Nat) (i : Nat), (((List.range' i as.length).filter fun k => condW (as.getD (k - i) 0) L R).map fun k => 2 ^ k).sum = impF as (2 ^ i) L R
  | [], i => rfl
  | a :: as, i => by
    rw [List.length_cons, List.range'_succ, List.filter_cons]
    have e : ((List.range' (i + 1) as.length).filter fun k => condW ((a :: as).getD (k - i) 0) L R) = (List.range' (i + 1) as.length).filter fun k => condW (as.getD (k - (i + 1)) 0) L R := by
      refine List.filter_congr fun k hk => ?_
      have hk' := (List.mem_range'_1.mp hk).1
      rw [show k - i = (k - (i + 1)) + 1 by omega]
      rfl
    rw [e, Nat.sub_self]
    have ih := impF_sum L R as (i + 1)
    show _ = bif condW a L R then 2 ^ i + impF as (2 * 2 ^ i) L R else impF as (2 * 2 ^ i) L R
    rw [show 2 * 2 ^ i = 2 ^ (i + 1) by rw [Nat.pow_succ]; omega, ← ih]
    show (List.map _ (if condW a L R = true then _ else _)).sum = _
    cases condW a L R
    · rfl
    · rfl
theorem arrowW_eq (as : List Nat) (L R : Nat) : arrowW as L R = impF as 1 L R := by
  unfold arrowW
  rw [← Nat.pow_zero 2, ← impF_sum L R as 0, List.range_eq_range']
  congr 2
  refine List.filter_congr fun k _ => ?_
  rw [condW_eq]; rfl
theorem impF_bit (L R : Nat) : ∀ (as : List Nat) (i k : Nat), (impF as (2 ^ i) L R).testBit k = (decide (i ≤ k) && (match as[k - i]? with | some a => condW a L R | none => false)) := by
  have lt : ∀ (as : List Nat) (i : Nat), ∃ q, impF as (2 ^ i) L R = 2 ^ i * q := by
    intro as
    induction as with
    | nil => intro i; exact ⟨0, rfl⟩
    | cons a as ih =>
      intro i
      obtain ⟨q, hq⟩ := ih (i + 1)
      show ∃ q, (bif condW a L R then 2 ^ i + impF as (2 * 2 ^ i) L R else impF as (2 * 2 ^ i) L R) = _
      rw [show 2 * 2 ^ i = 2 ^ (i + 1) by rw [Nat.pow_succ]; omega, hq, Nat.pow_succ]
      cases condW a L R
      · exact ⟨2 * q, by show 2 ^ i * 2 * q = _; rw [Nat.mul_assoc]⟩
      · exact ⟨1 + 2 * q, by show 2 ^ i + 2 ^ i * 2 * q = _; rw [Nat.mul_add, Nat.mul_one, Nat.mul_assoc]⟩
  intro as
  induction as with
  | nil => intro i k; show (0 : Nat).testBit k = _; rw [Nat.zero_testBit]; simp
  | cons a as ih =>
    intro i k
    show (bif condW a L R then 2 ^ i + impF as (2 * 2 ^ i) L R else impF as (2 * 2 ^ i) L R).testBit k = _
    rw [show 2 * 2 ^ i = 2 ^ (i + 1) by rw [Nat.pow_succ]; omega]
    obtain ⟨q, hq⟩ := lt as (i + 1)
    have ihk := ih (i + 1) k
    have e : (bif condW a L R then 2 ^ i + impF as (2 ^ (i + 1)) L R else impF as (2 ^ (i + 1)) L R) = 2 ^ i * (2 * q + (condW a L R).toNat) := by
      rw [hq, Nat.pow_succ]
      cases condW a L R
      · show 2 ^ i * 2 * q = 2 ^ i * (2 * q + 0); rw [Nat.add_zero, Nat.mul_assoc]
      · show 2 ^ i + 2 ^ i * 2 * q = 2 ^ i * (2 * q + 1); rw [Nat.mul_add, Nat.mul_one, Nat.mul_assoc, Nat.add_comm]
    rw [e, Nat.testBit_two_pow_mul]
    rw [hq, Nat.testBit_two_pow_mul] at ihk
    by_cases h1 : i ≤ k
    · by_cases h2 : i = k
      · subst h2
        rw [Nat.sub_self]
        simp only [Nat.le_refl, decide_true, Bool.true_and, List.getElem?_cons_zero, ge_iff_le]
        rw [Nat.testBit_zero]
        cases condW a L R <;> simp <;> omega
      · have h3 : i + 1 ≤ k := by omega
        rw [decide_eq_true h3, Bool.true_and, Bool.true_and] at ihk
        rw [decide_eq_true h1, Bool.true_and, Bool.true_and]
        have e2 : k - i = (k - (i + 1)) + 1 := by omega
        rw [e2, List.getElem?_cons_succ]
        rw [← ihk, Nat.testBit_succ]
        congr 1
        cases condW a L R <;> simp <;> omega
    · simp [h1]
/-! ### forcing -/
structure ModelOk (ab : List Nat) (mask : Str → Nat) : Prop where
  rf : ∀ v < ab.length, (ab.getD v 0).testBit v = true
  lt : ∀ v < ab.length, ∀ u, (ab.getD v 0).testBit u = true → u < ab.length
  tr : ∀ v < ab.length, ∀ u, (ab.getD v 0).testBit u = true → ∀ x, (ab.getD u 0).testBit x = true → (ab.getD v 0).testBit x = true
  up : ∀ y, ∀ v < ab.length, (mask y).testBit v = true → ∀ u, (ab.getD v 0).testBit u = true → (mask y).testBit u = true
  top : ∀ y v, (mask y).testBit v = true → v < ab.length
theorem arrowW_bit (ab : List Nat) (L R : Nat) (v : Nat) : (arrowW ab L R).testBit v = true ↔ v < ab.length ∧ ∀ u, (ab.getD v 0).testBit u = true → L.testBit u = true → R.testBit u = true := by
  rw [arrowW_eq, ← Nat.pow_zero 2, impF_bit, Nat.sub_zero]
  by_cases h : v < ab.length
  · rw [List.getElem?_eq_getElem h, List.getD_eq_getElem?_getD, List.getElem?_eq_getElem h]
    simp only [Nat.zero_le, decide_true, Bool.true_and, Option.getD_some]
    rw [condW_eq, beq_iff_eq]
    constructor
    · intro e
      refine ⟨h, fun u h1 h2 => ?_⟩
      have := congrArg (fun n => n.testBit u) e
      simpa [Nat.testBit_and, h1, h2] using this
    · rintro ⟨_, e⟩
      refine Nat.eq_of_testBit_eq fun u => ?_
      rw [Nat.testBit_and, Nat.testBit_and]
      cases h1 : (ab[v]).testBit u with
      | false => simp
      | true =>
        cases h2 : L.testBit u with
        | false => simp
        | true => simp [e u h1 h2]
  · rw [List.getElem?_eq_none (by omega)]
    constructor
    · intro q; simp at q
    · rintro ⟨q, _⟩; exact absurd q h
section
variable {ab : List Nat} {mask : Str → Nat}
noncomputable def forces (ab : List Nat) (mask : Str → Nat) (v : Nat) (t : Fm) : Prop := (wl ab mask t).testBit v = true
theorem forces_lt (hm : ModelOk ab mask) {v : Nat} : ∀ {t : Fm}, forces ab mask v t → v < ab.length
  | .leaf x, h => hm.top _ _ h
  | .node l r, h => ((arrowW_bit ab _ _ v).mp h).1
theorem forces_up (hm : ModelOk ab mask) {v u : Nat} (hv : v < ab.length) (hu : (ab.getD v 0).testBit u = true) : ∀ {t : Fm}, forces ab mask v t → forces ab mask u t
  | .leaf x, h => hm.up _ v hv h u hu
  | .node l r, h => (arrowW_bit ab _ _ u).mpr ⟨hm.lt v hv u hu, fun x hx => ((arrowW_bit ab _ _ v).mp h).2 x (hm.tr v hv u hu x hx)⟩
theorem forces_lefts (hm : ModelOk ab mask) : ∀ {t : Fm} {v : Nat}, v < ab.length → (forces ab mask v t ↔ ∀ u, (ab.getD v 0).testBit u = true → (∀ l ∈ t.lefts, forces ab mask u l) → (mask (low t.last)).testBit u = true)
  | .leaf x, v, hv => by
    constructor
    · intro h u hu _; exact hm.up _ v hv h u hu
    · intro h; exact h v (hm.rf v hv) (fun l hl => nomatch hl)
  | .node l r, v, hv => by
    constructor
    · intro h u hu hl
      have h1 := ((arrowW_bit ab _ _ v).mp h).2 u hu (hl l (.head _))
      have hu' := hm.lt v hv u hu
      exact (forces_lefts hm hu').mp h1 u (hm.rf u hu') fun l' hl' => hl l' (.tail _ hl')
    · intro h
      refine (arrowW_bit ab _ _ v).mpr ⟨hv, fun u hu h1 => ?_⟩
      have hu' := hm.lt v hv u hu
      refine (forces_lefts hm hu').mpr fun x hx hl => h x (hm.tr v hv u hu x hx) fun l' hl' => ?_
      rcases List.mem_cons.mp hl' with rfl | hl'
      · exact forces_up hm hu' hx h1
      · exact hl l' hl'
theorem fold_in : ∀ (ls Γ : List Fm), ∀ g ∈ ls, g ∈ ls.foldl addOne Γ
  | f :: ls, Γ, g, h => by
    rcases List.mem_cons.mp h with rfl | h
    · exact fold_sub ls _ _ addOne_mem
    · exact fold_in ls _ g h
/-- what the search finds holds everywhere -/
theorem sr_sound (hm : ModelOk ab mask) : ∀ (n : Nat) (t : Fm) (Γ : List Fm) (way : List (List Fm × Str)), sr n t Γ way = true → ∀ v, v < ab.length → (∀ f ∈ Γ, forces ab mask v f) → forces ab mask v t
  | 0, t, Γ, way, h, _, _, _ => nomatch h
  | n + 1, t, Γ, way, h, v, hv, hΓ => by
    have h' : (!seen (t.lefts.foldl addOne Γ) (low t.last) way && ((t.lefts.foldl addOne Γ).filter fun f => low f.last == low t.last).any fun f => f.lefts.all fun o => sr n o (t.lefts.foldl addOne Γ) (way ++ [(t.lefts.foldl addOne Γ, low t.last)])) = true := h
    rw [Bool.and_eq_true, List.any_eq_true] at h'
    obtain ⟨_, f, hf, hall⟩ := h'
    rw [List.mem_filter, beq_iff_eq] at hf
    rw [List.all_eq_true] at hall
    refine (forces_lefts hm hv).mpr fun u hu hl => ?_
    have hu' := hm.lt v hv u hu
    have hΓ' : ∀ g ∈ t.lefts.foldl addOne Γ, forces ab mask u g := fun g hg => by
      rcases fold_of _ _ g hg with q | q
      · exact forces_up hm hv hu (hΓ g q)
      · exact hl g q
    have := (forces_lefts hm hu').mp (hΓ' f hf.1) u (hm.rf u hu') fun o ho => sr_sound hm n o _ _ (hall o ho) u hu' hΓ'
    rw [hf.2] at this
    exact this
end
/-! ### the search with no look at the way -/
noncomputable def sf : Nat → Fm → List Fm → Bool
  | 0, _, _ => false
  | n + 1, t, Γ => ((t.lefts.foldl addOne Γ).filter fun f => low f.last == low t.last).any fun f => f.lefts.all fun o => sf n o (t.lefts.foldl addOne Γ)
noncomputable def hk (k : Nat) (Γ : List Fm) (g : Str) : Bool := (Γ.filter fun f => low f.last == g).any fun f => f.lefts.all fun o => sf k o Γ
theorem fold_mem {ls Γ : List Fm} {g : Fm} : g ∈ ls.foldl addOne Γ ↔ g ∈ Γ ∨ g ∈ ls :=
  ⟨fold_of _ _ g, fun h => h.elim (fold_sub _ _ g) (fold_in _ _ g)⟩
theorem hk_iff {k : Nat} {Γ : List Fm} {g : Str} : hk k Γ g = true ↔ ∃ f ∈ Γ, low f.last = g ∧ ∀ o ∈ f.lefts, sf k o Γ = true := by
  unfold hk
  rw [List.any_eq_true]
  constructor
  · rintro ⟨f, hf, ha⟩
    rw [List.mem_filter, beq_iff_eq] at hf
    exact ⟨f, hf.1, hf.2, List.all_eq_true.mp ha⟩
  · rintro ⟨f, hf, hg, ha⟩
    exact ⟨f, List.mem_filter.mpr ⟨hf, beq_iff_eq.mpr hg⟩, List.all_eq_true.mpr ha⟩
theorem sf_mono : ∀ (n : Nat) (t : Fm) (Γ Δ : List Fm), (∀ f ∈ Γ, f ∈ Δ) → sf n t Γ = true → sf n t Δ = true
  | 0, _, _, _, _, h => nomatch h
  | n + 1, t, Γ, Δ, hs, h => by
    have h' : hk n (t.lefts.foldl addOne Γ) (low t.last) = true := h
    obtain ⟨f, hf, hg, ha⟩ := hk_iff.mp h'
    have hs' : ∀ f ∈ t.lefts.foldl addOne Γ, f ∈ t.lefts.foldl addOne Δ := fun x hx => fold_mem.mpr ((fold_mem.mp hx).imp (hs x) id)
    exact hk_iff.mpr ⟨f, hs' f hf, hg, fun o ho => sf_mono n o _ _ hs' (ha o ho)⟩
theorem hk_mono {k : Nat} {Γ Δ : List Fm} {g : Str} (hs : ∀ f ∈ Γ, f ∈ Δ) (h : hk k Γ g = true) : hk k Δ g = true := by
  obtain ⟨f, hf, hg, ha⟩ := hk_iff.mp h
  exact hk_iff.mpr ⟨f, hs f hf, hg, fun o ho => sf_mono k o _ _ hs (ha o ho)⟩
theorem sf_sr : ∀ (n : Nat) (t : Fm) (Γ : List Fm) (way : List (List Fm × Str)) (m : Nat), n ≤ m → sf n t Γ = true → (∀ p ∈ way, ∀ j, j < n → hk j p.1 p.2 = false) → sr m t Γ way = true := by
  intro n
  induction n using Nat.strongRecOn with
  | _ n ih =>
    intro t Γ way m hm h hw
    cases n with
    | zero => cases h
    | succ n =>
      have hn : hk n (t.lefts.foldl addOne Γ) (low t.last) = true := h
      -- the least height
      obtain ⟨k, hkn, hk1, hk2⟩ : ∃ k, k ≤ n ∧ hk k (t.lefts.foldl addOne Γ) (low t.last) = true ∧ ∀ j, j < k → hk j (t.lefts.foldl addOne Γ) (low t.last) = false := by
        clear ih h hm hw
        induction n using Nat.strongRecOn with
        | _ n ih =>
          by_cases q : ∃ j, j < n ∧ hk j (t.lefts.foldl addOne Γ) (low t.last) = true
          · obtain ⟨j, hj, hjt⟩ := q
            obtain ⟨k, h1, h2, h3⟩ := ih j hj hjt
            exact ⟨k, by omega, h2, h3⟩
          · refine ⟨n, Nat.le_refl n, hn, fun j hj => ?_⟩
            cases e : hk j (t.lefts.foldl addOne Γ) (low t.last) with
            | false => rfl
            | true => exact absurd ⟨j, hj, e⟩ q
      obtain ⟨m, rfl⟩ : ∃ m', m = m' + 1 := ⟨m - 1, by omega⟩
      show (!seen (t.lefts.foldl addOne Γ) (low t.last) way && ((t.lefts.foldl addOne Γ).filter fun f => low f.last == low t.last).any fun f => f.lefts.all fun o => sr m o (t.lefts.foldl addOne Γ) (way ++ [(t.lefts.foldl addOne Γ, low t.last)])) = true
      rw [Bool.and_eq_true]
      constructor
      · rw [Bool.not_eq_true', Bool.eq_false_iff]
        intro hs
        unfold seen at hs
        obtain ⟨p, hp, hps⟩ := List.any_eq_true.mp hs
        rw [Bool.and_eq_true, beq_iff_eq] at hps
        obtain ⟨hss, hpg⟩ := hps
        unfold sameSet at hss
        rw [Bool.and_eq_true, List.all_eq_true, List.all_eq_true] at hss
        have h1 : hk n p.1 p.2 = true := by
          rw [hpg]
          exact hk_mono (fun f hf => of_decide_eq_true (hss.2 f hf)) hn
        rw [hw p hp n (Nat.lt_succ_self n)] at h1
        cases h1
      · obtain ⟨f, hf, hg, ha⟩ := hk_iff.mp hk1
        refine List.any_eq_true.mpr ⟨f, List.mem_filter.mpr ⟨hf, beq_iff_eq.mpr hg⟩, List.all_eq_true.mpr fun o ho => ?_⟩
        refine ih k (by omega) o _ _ m (by omega) (ha o ho) fun p hp j hj => ?_
        rcases List.mem_append.mp hp with hp | hp
        · exact hw p hp j (by omega)
        · rw [List.mem_singleton.mp hp]; exact hk2 j hj
/-! ### formulas with numbers for names -/
inductive Sm where
  | leaf (a : Nat)
  | node (l r : Sm)
noncomputable def Sm.last : Sm → Nat
  | .leaf a => a
  | .node _ r => r.last
noncomputable def Sm.lefts : Sm → List Sm
  | .leaf _ => []
  | .node l r => l :: r.lefts
noncomputable def Sm.size : Sm → Nat
  | .leaf _ => 1
  | .node l r => l.size + r.size
noncomputable def Sm.small : Sm → Prop
  | .leaf a => a < 3
  | .node l r => l.small ∧ r.small
noncomputable def Fm.toS (k : Str → Nat) : Fm → Sm
  | .leaf x => .leaf (k (low x))
  | .node l r => .node (l.toS k) (r.toS k)
theorem toS_last (k : Str → Nat) : ∀ t : Fm, (t.toS k).last = k (low t.last)
  | .leaf x => rfl
  | .node l r => toS_last k r
theorem toS_lefts (k : Str → Nat) : ∀ t : Fm, (t.toS k).lefts = t.lefts.map (Fm.toS k)
  | .leaf x => rfl
  | .node l r => by show l.toS k :: (r.toS k).lefts = _; rw [toS_lefts k r]; rfl
noncomputable def sS : Nat → Sm → List Sm → Bool
  | 0, _, _ => false
  | n + 1, t, Γ => (t.lefts ++ Γ).any fun f => Nat.beq f.last t.last && f.lefts.all fun o => sS n o (t.lefts ++ Γ)
theorem NamesOk.last {t : Fm} (h : NamesOk t) : t.last ∈ names6 := by
  induction h with
  | leaf h => exact h
  | node _ _ _ ih => exact ih
theorem NamesOk.lefts {t : Fm} (h : NamesOk t) : ∀ l ∈ t.lefts, NamesOk l := by
  induction h with
  | leaf h => intro l hl; cases hl
  | node h1 _ _ ih =>
    intro l hl
    rcases List.mem_cons.mp hl with rfl | hl
    · exact h1
    · exact ih l hl
theorem sS_sf {k : Str → Nat} (hk : ∀ x ∈ names6, ∀ y ∈ names6, k (low x) = k (low y) → low x = low y) : ∀ (n : Nat) (t : Fm) (Γ : List Fm) (Δ : List Sm), NamesOk t → (∀ f ∈ Γ, NamesOk f) → (∀ d ∈ Δ, ∃ f ∈ Γ, f.toS k = d) → sS n (t.toS k) Δ = true → sf n t Γ = true
  | 0, _, _, _, _, _, _, h => nomatch h
  | n + 1, t, Γ, Δ, ht, hΓ, hd, h => by
    have h' : (((t.toS k).lefts ++ Δ).any fun f => Nat.beq f.last (t.toS k).last && f.lefts.all fun o => sS n o ((t.toS k).lefts ++ Δ)) = true := h
    obtain ⟨d, hdm, hdp⟩ := List.any_eq_true.mp h'
    rw [Bool.and_eq_true, List.all_eq_true] at hdp
    have hd' : ∀ d ∈ (t.toS k).lefts ++ Δ, ∃ f ∈ t.lefts.foldl addOne Γ, f.toS k = d := fun d hdm => by
      rcases List.mem_append.mp hdm with q | q
      · rw [toS_lefts] at q
        obtain ⟨f, hf, e⟩ := List.mem_map.mp q
        exact ⟨f, fold_mem.mpr (.inr hf), e⟩
      · obtain ⟨f, hf, e⟩ := hd d q
        exact ⟨f, fold_mem.mpr (.inl hf), e⟩
    have hΓ' : ∀ f ∈ t.lefts.foldl addOne Γ, NamesOk f := fun f hf => (fold_mem.mp hf).elim (hΓ f) (ht.lefts f)
    obtain ⟨f, hf, rfl⟩ := hd' d hdm
    have hfo := hΓ' f hf
    have e1 := Nat.eq_of_beq_eq_true hdp.1
    rw [toS_last, toS_last] at e1
    refine hk_iff.mpr ⟨f, hf, hk _ hfo.last _ ht.last e1, fun o ho => ?_⟩
    refine sS_sf hk n o _ _ (hfo.lefts o ho) hΓ' hd' (hdp.2 _ ?_)
    rw [toS_lefts]
    exact List.mem_map_of_mem ho
/-! ### all formulas of four to six names -/
noncomputable def abC : List Nat := [1, 2, 12, 8, 17, 32, 66, 129, 259, 529, 1043, 2056, 4106, 8201, 16395, 32793, 65563, 131084, 262158, 524301, 1048591, 2097181, 4194335, 8388608, 16777224, 33554432, 67108865, 134217728]
noncomputable def mC (a : Nat) : Nat := [31, 159383560, 234881025].getD a 0
noncomputable def impC (L R : Nat) : Nat := List.rec (motive := fun _ => Nat → Nat) (fun _ => 0) (fun a _ ih p => bif condW a L R then Nat.add p (ih (Nat.mul 2 p)) else ih (Nat.mul 2 p)) abC 1
theorem impC_eq (L R : Nat) : impC L R = impF abC 1 L R := by
  have : ∀ (as : List Nat) (p : Nat), List.rec (motive := fun _ => Nat → Nat) (fun _ => 0) (fun a _ ih p => bif condW a L R then Nat.add p (ih (Nat.mul 2 p)) else ih (Nat.mul 2 p)) as p = impF as p L R := by
    intro as
    induction as with
    | nil => intro p; rfl
    | cons a as ih => intro p; show (bif condW a L R then p + _ else _) = bif condW a L R then p + _ else _; rw [← ih (2 * p)]; rfl
  exact this abC 1
noncomputable def mS : Sm → Nat
  | .leaf a => mC a
  | .node l r => impC (mS l) (mS r)
noncomputable def comb (A B : List (Sm × Nat)) : List (Sm × Nat) := A.flatMap fun p => B.map fun q => (.node p.1 q.1, impC p.2 q.2)
noncomputable def tL1 : List (Sm × Nat) := [(.leaf 0, 31), (.leaf 1, 159383560), (.leaf 2, 234881025)]
noncomputable def tL2 := comb tL1 tL1
noncomputable def tL3 := comb tL1 tL2 ++ comb tL2 tL1
noncomputable def tL4 := comb tL1 tL3 ++ (comb tL2 tL2 ++ comb tL3 tL1)
noncomputable def tL5 := comb tL1 tL4 ++ (comb tL2 tL3 ++ (comb tL3 tL2 ++ comb tL4 tL1))
noncomputable def zL1 : List (Sm × Nat) := [(.leaf 0, 31)]
noncomputable def zL2 := comb tL1 zL1
noncomputable def zL3 := comb tL1 zL2 ++ comb tL2 zL1
noncomputable def zL4 := comb tL1 zL3 ++ (comb tL2 zL2 ++ comb tL3 zL1)
noncomputable def zL5 := comb tL1 zL4 ++ (comb tL2 zL3 ++ (comb tL3 zL2 ++ comb tL4 zL1))
noncomputable def chk (A B : List (Sm × Nat)) : Bool := A.all fun p => B.all fun q => bif Nat.beq (Nat.land p.2 q.2) p.2 then sS 4 (.node p.1 q.1) [] else true
theorem chk13 : (chk tL1 zL3 && (chk tL2 zL2 && chk tL3 zL1)) = true := by decide +kernel
theorem chk14 : (chk tL1 zL4 && (chk tL2 zL3 && (chk tL3 zL2 && chk tL4 zL1))) = true := by decide +kernel
theorem chk15 : (chk tL1 zL5 && (chk tL2 zL4 && (chk tL3 zL3 && chk tL4 zL2))) = true := by decide +kernel
theorem chk51 : chk tL5 zL1 = true := by decide +kernel
theorem Sm.size_pos : ∀ s : Sm, 1 ≤ s.size
  | .leaf _ => Nat.le_refl 1
  | .node l r => by have := size_pos l; show 1 ≤ l.size + r.size; omega
theorem mem_comb {A B : List (Sm × Nat)} {l r : Sm} (h1 : (l, mS l) ∈ A) (h2 : (r, mS r) ∈ B) : (Sm.node l r, mS (.node l r)) ∈ comb A B :=
  List.mem_flatMap.mpr ⟨_, h1, List.mem_map.mpr ⟨_, h2, rfl⟩⟩
noncomputable def InT (L : List (Sm × Nat)) (n : Nat) : Prop := ∀ s : Sm, s.small → s.size = n → (s, mS s) ∈ L
noncomputable def InZ (L : List (Sm × Nat)) (n : Nat) : Prop := ∀ s : Sm, s.small → s.size = n → s.last = 0 → (s, mS s) ∈ L
theorem inT1 : InT tL1 1 := by
  intro s hs hn
  cases s with
  | leaf a =>
    have hs : a < 3 := hs
    rcases a with _ | _ | _ | a
    · exact .head _
    · exact .tail _ (.head _)
    · exact .tail _ (.tail _ (.head _))
    · omega
  | node l r =>
    have h1 := l.size_pos
    have h2 := r.size_pos
    have hn : l.size + r.size = 1 := hn
    omega
theorem inZ1 : InZ zL1 1 := by
  intro s hs hn hz
  cases s with
  | leaf a =>
    have hz : a = 0 := hz
    subst hz
    exact .head _
  | node l r =>
    have h1 := l.size_pos
    have h2 := r.size_pos
    have hn : l.size + r.size = 1 := hn
    omega
theorem inT2 : InT tL2 2 := by
  intro s hs hn
  cases s with
  | leaf a => have hn : 1 = 2 := hn; omega
  | node l r =>
    have h1 := l.size_pos
    have h2 := r.size_pos
    have hn : l.size + r.size = 2 := hn
    exact mem_comb (inT1 l hs.1 (by omega)) (inT1 r hs.2 (by omega))
theorem inZ2 : InZ zL2 2 := by
  intro s hs hn hz
  cases s with
  | leaf a => have hn : 1 = 2 := hn; omega
  | node l r =>
    have h1 := l.size_pos
    have h2 := r.size_pos
    have hn : l.size + r.size = 2 := hn
    exact mem_comb (inT1 l hs.1 (by omega)) (inZ1 r hs.2 (by omega) hz)
theorem inT3 : InT tL3 3 := by
  intro s hs hn
  cases s with
  | leaf a => have hn : 1 = 3 := hn; omega
  | node l r =>
    have h1 := l.size_pos
    have h2 := r.size_pos
    have hn : l.size + r.size = 3 := hn
    rcases (by omega : (l.size = 1 ∧ r.size = 2) ∨ (l.size = 2 ∧ r.size = 1)) with h | h
    · exact List.mem_append_left _ (mem_comb (inT1 l hs.1 h.1) (inT2 r hs.2 h.2))
    · exact List.mem_append_right _ (mem_comb (inT2 l hs.1 h.1) (inT1 r hs.2 h.2))
theorem inZ3 : InZ zL3 3 := by
  intro s hs hn hz
  cases s with
  | leaf a => have hn : 1 = 3 := hn; omega
  | node l r =>
    have h1 := l.size_pos
    have h2 := r.size_pos
    have hn : l.size + r.size = 3 := hn
    rcases (by omega : (l.size = 1 ∧ r.size = 2) ∨ (l.size = 2 ∧ r.size = 1)) with h | h
    · exact List.mem_append_left _ (mem_comb (inT1 l hs.1 h.1) (inZ2 r hs.2 h.2 hz))
    · exact List.mem_append_right _ (mem_comb (inT2 l hs.1 h.1) (inZ1 r hs.2 h.2 hz))
theorem inT4 : InT tL4 4 := by
  intro s hs hn
  cases s with
  | leaf a => have hn : 1 = 4 := hn; omega
  | node l r =>
    have h1 := l.size_pos
    have h2 := r.size_pos
    have hn : l.size + r.size = 4 := hn
    rcases (by omega : (l.size = 1 ∧ r.size = 3) ∨ (l.size = 2 ∧ r.size = 2) ∨ (l.size = 3 ∧ r.size = 1)) with h | h | h
    · exact List.mem_append_left _ (mem_comb (inT1 l hs.1 h.1) (inT3 r hs.2 h.2))
    · exact List.mem_append_right _ (List.mem_append_left _ (mem_comb (inT2 l hs.1 h.1) (inT2 r hs.2 h.2)))
    · exact List.mem_append_right _ (List.mem_append_right _ (mem_comb (inT3 l hs.1 h.1) (inT1 r hs.2 h.2)))
theorem inZ4 : InZ zL4 4 := by
  intro s hs hn hz
  cases s with
  | leaf a => have hn : 1 = 4 := hn; omega
  | node l r =>
    have h1 := l.size_pos
    have h2 := r.size_pos
    have hn : l.size + r.size = 4 := hn
    rcases (by omega : (l.size = 1 ∧ r.size = 3) ∨ (l.size = 2 ∧ r.size = 2) ∨ (l.size = 3 ∧ r.size = 1)) with h | h | h
    · exact List.mem_append_left _ (mem_comb (inT1 l hs.1 h.1) (inZ3 r hs.2 h.2 hz))
    · exact List.mem_append_right _ (List.mem_append_left _ (mem_comb (inT2 l hs.1 h.1) (inZ2 r hs.2 h.2 hz)))
    · exact List.mem_append_right _ (List.mem_append_right _ (mem_comb (inT3 l hs.1 h.1) (inZ1 r hs.2 h.2 hz)))
theorem inT5 : InT tL5 5 := by
  intro s hs hn
  cases s with
  | leaf a => have hn : 1 = 5 := hn; omega
  | node l r =>
    have h1 := l.size_pos
    have h2 := r.size_pos
    have hn : l.size + r.size = 5 := hn
    rcases (by omega : (l.size = 1 ∧ r.size = 4) ∨ (l.size = 2 ∧ r.size = 3) ∨ (l.size = 3 ∧ r.size = 2) ∨ (l.size = 4 ∧ r.size = 1)) with h | h | h | h
    · exact List.mem_append_left _ (mem_comb (inT1 l hs.1 h.1) (inT4 r hs.2 h.2))
    · exact List.mem_append_right _ (List.mem_append_left _ (mem_comb (inT2 l hs.1 h.1) (inT3 r hs.2 h.2)))
    · exact List.mem_append_right _ (List.mem_append_right _ (List.mem_append_left _ (mem_comb (inT3 l hs.1 h.1) (inT2 r hs.2 h.2))))
    · exact List.mem_append_right _ (List.mem_append_right _ (List.mem_append_right _ (mem_comb (inT4 l hs.1 h.1) (inT1 r hs.2 h.2))))
theorem inZ5 : InZ zL5 5 := by
  intro s hs hn hz
  cases s with
  | leaf a => have hn : 1 = 5 := hn; omega
  | node l r =>
    have h1 := l.size_pos
    have h2 := r.size_pos
    have hn : l.size + r.size = 5 := hn
    rcases (by omega : (l.size = 1 ∧ r.size = 4) ∨ (l.size = 2 ∧ r.size = 3) ∨ (l.size = 3 ∧ r.size = 2) ∨ (l.size = 4 ∧ r.size = 1)) with h | h | h | h
    · exact List.mem_append_left _ (mem_comb (inT1 l hs.1 h.1) (inZ4 r hs.2 h.2 hz))
    · exact List.mem_append_right _ (List.mem_append_left _ (mem_comb (inT2 l hs.1 h.1) (inZ3 r hs.2 h.2 hz)))
    · exact List.mem_append_right _ (List.mem_append_right _ (List.mem_append_left _ (mem_comb (inT3 l hs.1 h.1) (inZ2 r hs.2 h.2 hz))))
    · exact List.mem_append_right _ (List.mem_append_right _ (List.mem_append_right _ (mem_comb (inT4 l hs.1 h.1) (inZ1 r hs.2 h.2 hz))))
theorem chk_get {A B : List (Sm × Nat)} (h : chk A B = true) {l r : Sm} (h1 : (l, mS l) ∈ A) (h2 : (r, mS r) ∈ B) (hv : mS l &&& mS r = mS l) : sS 4 (.node l r) [] = true := by
  have := List.all_eq_true.mp (List.all_eq_true.mp h _ h1) _ h2
  have e : Nat.beq (Nat.land (mS l) (mS r)) (mS l) = true := by
    show Nat.beq (mS l &&& mS r) (mS l) = true
    rw [hv]; exact Nat.beq_refl _
  have this : (bif Nat.beq (Nat.land (mS l) (mS r)) (mS l) then sS 4 (.node l r) [] else true) = true := this
  rw [e] at this
  exact this
theorem table {l r : Sm} (hs : (Sm.node l r).small) (h4 : 4 ≤ (Sm.node l r).size) (h6 : (Sm.node l r).size ≤ 6) (hz : r.last = 0) (hv : mS l &&& mS r = mS l) : sS 4 (.node l r) [] = true := by
  have h1 := l.size_pos
  have h2 := r.size_pos
  have h4 : 4 ≤ l.size + r.size := h4
  have h6 : l.size + r.size ≤ 6 := h6
  have c3 := chk13
  have c4 := chk14
  have c5 := chk15
  rw [Bool.and_eq_true, Bool.and_eq_true] at c3
  rw [Bool.and_eq_true, Bool.and_eq_true, Bool.and_eq_true] at c4 c5
  have hl5 : l.size = 1 ∨ l.size = 2 ∨ l.size = 3 ∨ l.size = 4 ∨ l.size = 5 := by omega
  rcases hl5 with h | h | h | h | h
  · rw [h] at h4 h6
    rcases (by omega : r.size = 3 ∨ r.size = 4 ∨ r.size = 5) with q | q | q
    · exact chk_get c3.1 (inT1 l hs.1 h) (inZ3 r hs.2 q hz) hv
    · exact chk_get c4.1 (inT1 l hs.1 h) (inZ4 r hs.2 q hz) hv
    · exact chk_get c5.1 (inT1 l hs.1 h) (inZ5 r hs.2 q hz) hv
  · rw [h] at h4 h6
    rcases (by omega : r.size = 2 ∨ r.size = 3 ∨ r.size = 4) with q | q | q
    · exact chk_get c3.2.1 (inT2 l hs.1 h) (inZ2 r hs.2 q hz) hv
    · exact chk_get c4.2.1 (inT2 l hs.1 h) (inZ3 r hs.2 q hz) hv
    · exact chk_get c5.2.1 (inT2 l hs.1 h) (inZ4 r hs.2 q hz) hv
  · rw [h] at h4 h6
    rcases (by omega : r.size = 1 ∨ r.size = 2 ∨ r.size = 3) with q | q | q
    · exact chk_get c3.2.2 (inT3 l hs.1 h) (inZ1 r hs.2 q hz) hv
    · exact chk_get c4.2.2.1 (inT3 l hs.1 h) (inZ2 r hs.2 q hz) hv
    · exact chk_get c5.2.2.1 (inT3 l hs.1 h) (inZ3 r hs.2 q hz) hv
  · rw [h] at h6
    rcases (by omega : r.size = 1 ∨ r.size = 2) with q | q
    · exact chk_get c4.2.2.2 (inT4 l hs.1 h) (inZ1 r hs.2 q hz) hv
    · exact chk_get c5.2.2.2 (inT4 l hs.1 h) (inZ2 r hs.2 q hz) hv
  · rw [h] at h6
    exact chk_get chk51 (inT5 l hs.1 h) (inZ1 r hs.2 (by omega) hz) hv
/-! ### the model of 28 worlds -/
noncomputable def maskC (one two : Str) (y : Str) : Nat := if y = two then mC 2 else if y = one then mC 1 else mC 0
theorem bit_lt {n u : Nat} (h : n < 2 ^ 28) (hb : n.testBit u = true) : u < 28 := by
  rcases Nat.lt_or_ge u 28 with q | q
  · exact q
  · rw [Nat.testBit_lt_two_pow (Nat.lt_of_lt_of_le h (Nat.pow_le_pow_right (by decide) q))] at hb
    cases hb
theorem abC_lt : ∀ v, abC.getD v 0 < 2 ^ 28 := by
  intro v
  by_cases h : v < 28
  · exact (by decide +kernel : ∀ v < 28, abC.getD v 0 < 2 ^ 28) v h
  · rw [List.getD_eq_getElem?_getD, List.getElem?_eq_none (by show 28 ≤ v; omega)]; decide
theorem abC_facts : ((List.range 28).all fun v => (abC.getD v 0).testBit v && (List.range 28).all fun u => !(abC.getD v 0).testBit u || ((abC.getD u 0 &&& abC.getD v 0) == abC.getD u 0 && ([0, 1, 2].all fun a => !(mC a).testBit v || (mC a).testBit u))) = true := by decide +kernel
theorem abC_rf {v : Nat} (hv : v < 28) : (abC.getD v 0).testBit v = true := by
  have := List.all_eq_true.mp abC_facts v (List.mem_range.mpr hv)
  rw [Bool.and_eq_true] at this
  exact this.1
theorem abC_at {v u : Nat} (hv : v < 28) (hu : (abC.getD v 0).testBit u = true) : (abC.getD u 0 &&& abC.getD v 0) = abC.getD u 0 ∧ ∀ a, (mC a).testBit v = true → (mC a).testBit u = true := by
  have := List.all_eq_true.mp abC_facts v (List.mem_range.mpr hv)
  rw [Bool.and_eq_true] at this
  have := List.all_eq_true.mp this.2 u (List.mem_range.mpr (bit_lt (abC_lt v) hu))
  rw [hu] at this
  have this : ((abC.getD u 0 &&& abC.getD v 0) == abC.getD u 0 && ([0, 1, 2].all fun a => !(mC a).testBit v || (mC a).testBit u)) = true := this
  rw [Bool.and_eq_true, beq_iff_eq] at this
  refine ⟨this.1, fun a ha => ?_⟩
  by_cases h3 : a < 3
  · have := List.all_eq_true.mp this.2 a (by rcases a with _ | _ | _ | a <;> simp <;> omega)
    rw [ha] at this
    exact this
  · have : mC a = 0 := by unfold mC; rw [List.getD_eq_getElem?_getD, List.getElem?_eq_none (by show 3 ≤ a; omega)]; rfl
    rw [this, Nat.zero_testBit] at ha
    cases ha
theorem mC_lt (a : Nat) : mC a < 2 ^ 28 := by
  rcases a with _ | _ | _ | a
  · decide
  · decide
  · decide
  · have : mC (a + 3) = 0 := by unfold mC; rw [List.getD_eq_getElem?_getD, List.getElem?_eq_none (by show 3 ≤ a + 3; omega)]; rfl
    rw [this]; decide
theorem maskC_is (one two y : Str) : ∃ a, maskC one two y = mC a := by
  unfold maskC
  split
  · exact ⟨_, rfl⟩
  · split <;> exact ⟨_, rfl⟩
theorem modelC (one two : Str) : ModelOk abC (maskC one two) where
  rf v hv := abC_rf hv
  lt v _ u hu := bit_lt (abC_lt v) hu
  tr v hv u hu x hx := by
    have := (abC_at hv hu).1
    rw [← this, Nat.testBit_and, Bool.and_eq_true] at hx
    exact hx.2
  up y v hv h u hu := by
    obtain ⟨a, e⟩ := maskC_is one two y
    rw [e] at h ⊢
    exact (abC_at hv hu).2 a h
  top y v h := by
    obtain ⟨a, e⟩ := maskC_is one two y
    rw [e] at h
    exact bit_lt (mC_lt a) h
noncomputable def Three (head one two : Str) : Prop := (head = Str.ofString "a" ∧ one = Str.ofString "ab" ∧ two = Str.ofString "b") ∨ (head = Str.ofString "ab" ∧ one = Str.ofString "a" ∧ two = Str.ofString "b") ∨ (head = Str.ofString "b" ∧ one = Str.ofString "a" ∧ two = Str.ofString "ab")
theorem fold_fst : ∀ (ps : List (List Str × Nat)) (a : List Nat) (f : Str → Nat), (ps.foldl mdStep (a, f)).1 = (ps.map (·.2)).foldl (fun a n => a ++ [n + 2 ^ a.length]) a
  | [], _, _ => rfl
  | p :: ps, a, f => by rw [List.foldl_cons, List.map_cons, List.foldl_cons]; exact fold_fst ps _ _
theorem md_above (one two : Str) : (mdSpec one two).1 = abC := by
  unfold mdSpec
  rw [fold_fst]
  have e : ((rootsOf [0, 8, 12] ++ leaves5 one two).map (·.2)) = [0, 2, 1, 3, 17, 19, 8, 10, 9, 11, 25, 27, 12, 14, 13, 15, 29, 31, 0, 8, 0, 1, 0] := by rfl
  rw [e]
  decide +kernel
theorem md_masks {head one two : Str} (h : Three head one two) : ∀ y ∈ lows, (mdSpec one two).2 y = maskC one two y := by
  rcases h with ⟨rfl, rfl, rfl⟩ | ⟨rfl, rfl, rfl⟩ | ⟨rfl, rfl, rfl⟩ <;> decide +kernel
theorem wl_congr {ab : List Nat} {m1 m2 : Str → Nat} (h : ∀ y ∈ lows, m1 y = m2 y) {t : Fm} (ht : NamesOk t) : wl ab m1 t = wl ab m2 t := by
  induction ht with
  | leaf hx => exact h _ (low_in hx)
  | node _ _ i1 i2 => show arrowW _ _ _ = arrowW _ _ _; rw [i1, i2]
noncomputable def kC (head one : Str) (y : Str) : Nat := if y = head then 0 else if y = one then 1 else 2
theorem mask_k {head one two : Str} (h : Three head one two) : ∀ y ∈ lows, maskC one two y = mC (kC head one y) := by
  rcases h with ⟨rfl, rfl, rfl⟩ | ⟨rfl, rfl, rfl⟩ | ⟨rfl, rfl, rfl⟩ <;> decide +kernel
theorem kC_inj {head one two : Str} (h : Three head one two) : ∀ x ∈ lows, ∀ y ∈ lows, kC head one x = kC head one y → x = y := by
  rcases h with ⟨rfl, rfl, rfl⟩ | ⟨rfl, rfl, rfl⟩ | ⟨rfl, rfl, rfl⟩ <;> decide +kernel
theorem wl_mS {head one two : Str} (h : Three head one two) {t : Fm} (ht : NamesOk t) : wl abC (maskC one two) t = mS (t.toS (kC head one)) := by
  induction ht with
  | leaf hx => exact mask_k h _ (low_in hx)
  | node _ _ i1 i2 =>
    show arrowW _ _ _ = impC _ _
    rw [i1, i2, arrowW_eq, impC_eq]
noncomputable def Fm.size : Fm → Nat
  | .leaf _ => 1
  | .node l r => l.size + r.size
theorem toS_size (k : Str → Nat) : ∀ t : Fm, (t.toS k).size = t.size
  | .leaf _ => rfl
  | .node l r => by show (l.toS k).size + (r.toS k).size = _; rw [toS_size k l, toS_size k r]; rfl
theorem toS_small (head one : Str) : ∀ t : Fm, (t.toS (kC head one)).small
  | .leaf x => by
    show kC head one (low x) < 3
    unfold kC
    split
    · decide
    · split <;> decide
  | .node l r => ⟨toS_small head one l, toS_small head one r⟩
theorem full_bits (n : Nat) (h : ∀ k, n.testBit k = decide (k < 28)) : n = 2 ^ 28 - 1 := by
  refine Nat.eq_of_testBit_eq fun k => ?_
  rw [h, Nat.testBit_two_pow_sub_one]
/-- the search finds what holds in all 28 worlds, and nothing else -/
theorem search_ok {head one two : Str} (h3 : Three head one two) {t : Fm} (ht : NamesOk t) (h4 : 4 ≤ t.size) (h6 : t.size ≤ 6) (hl : low t.last = head) :
    sr 19 t [] [] = decide (wl (mdSpec one two).1 (mdSpec one two).2 t = 2 ^ 28 - 1) := by
  rw [md_above, wl_congr (md_masks h3) ht, Bool.eq_iff_iff, decide_eq_true_iff]
  have hm := modelC one two
  constructor
  · intro h
    refine full_bits _ fun k => ?_
    rw [Bool.eq_iff_iff, decide_eq_true_iff]
    constructor
    · intro q; exact forces_lt hm (t := t) q
    · intro q; exact sr_sound hm 19 t [] [] h k q fun f hf => nomatch hf
  · intro h
    cases ht with
    | leaf _ => have h4 : 4 ≤ 1 := h4; omega
    | @node l r hl' hr' =>
      have hv : mS (l.toS (kC head one)) &&& mS (r.toS (kC head one)) = mS (l.toS (kC head one)) := by
        rw [← wl_mS h3 hl', ← wl_mS h3 hr']
        refine Nat.eq_of_testBit_eq fun k => ?_
        rw [Nat.testBit_and]
        cases e : (wl abC (maskC one two) l).testBit k with
        | false => rfl
        | true =>
          have hk : k < 28 := forces_lt hm (t := l) e
          have hf : (wl abC (maskC one two) (.node l r)).testBit k = true := by
            rw [h, Nat.testBit_two_pow_sub_one]; exact decide_eq_true hk
          have := ((arrowW_bit abC _ _ k).mp hf).2 k (abC_rf hk) e
          rw [this]; rfl
      have hz : (r.toS (kC head one)).last = 0 := by
        rw [toS_last]
        have : low r.last = head := hl
        rw [this]
        exact if_pos rfl
      have hsS : sS 4 ((Fm.node l r).toS (kC head one)) [] = true := by
        refine table (toS_small head one (.node l r)) ?_ ?_ hz hv
        · exact (toS_size (kC head one) (.node l r)).symm ▸ h4
        · exact (toS_size (kC head one) (.node l r)).symm ▸ h6
      have := sS_sf (fun x hx y hy e => kC_inj h3 _ (low_in hx) _ (low_in hy) e) 4 (.node l r) [] [] (.node hl' hr') (fun f hf => nomatch hf) (fun d hd => nomatch hd) hsS
      exact sf_sr 4 _ _ _ 19 (by decide) this fun p hp => nomatch hp
/-! ### what stands between marks goes -/
noncomputable def keep : Bool → Bool → List Nat → List Nat
  | _, _, [] => []
  | true, true, _ :: r => keep false true r
  | true, false, c :: r => c :: keep false false r
  | false, true, c :: r => if c = 34 then keep false false r else keep (c == 92) true r
  | false, false, c :: r => if c = 34 then keep false true r else c :: keep (c == 92) false r
noncomputable def endE : Bool → List Nat → Bool
  | e, [] => e
  | true, _ :: r => endE false r
  | false, c :: r => endE (c == 92) r
noncomputable def endQ : Bool → Bool → List Nat → Bool
  | _, q, [] => q
  | true, q, _ :: r => endQ false q r
  | false, q, c :: r => if c = 34 then endQ false (!q) r else endQ (c == 92) q r
theorem endE_append : ∀ (p y : List Nat) (e : Bool), endE e (p ++ y) = endE (endE e p) y
  | [], y, e => by cases e <;> rfl
  | c :: p, y, true => endE_append p y false
  | c :: p, y, false => endE_append p y (c == 92)
theorem endQ_append : ∀ (p y : List Nat) (e q : Bool), endQ e q (p ++ y) = endQ (endE e p) (endQ e q p) y
  | [], y, e, q => by cases e <;> rfl
  | c :: p, y, true, q => endQ_append p y false q
  | c :: p, y, false, q => by
    show (if c = 34 then endQ false (!q) (p ++ y) else endQ (c == 92) q (p ++ y)) = endQ (endE (c == 92) p) (if c = 34 then endQ false (!q) p else endQ (c == 92) q p) y
    by_cases h : c = 34
    · subst h; rw [if_pos rfl, if_pos rfl]; exact endQ_append p y false (!q)
    · rw [if_neg h, if_neg h]; exact endQ_append p y _ q
theorem keep_append : ∀ (p y : List Nat) (e q : Bool), keep e q (p ++ y) = keep e q p ++ keep (endE e p) (endQ e q p) y
  | [], y, e, q => by cases e <;> cases q <;> rfl
  | c :: p, y, true, true => keep_append p y false true
  | c :: p, y, true, false => by show c :: keep false false (p ++ y) = c :: (_ ++ _); rw [keep_append p y false false]; rfl
  | c :: p, y, false, true => by
    show (if c = 34 then keep false false (p ++ y) else keep (c == 92) true (p ++ y)) = (if c = 34 then keep false false p else keep (c == 92) true p) ++ keep (endE (c == 92) p) (if c = 34 then endQ false false p else endQ (c == 92) true p) y
    by_cases h : c = 34
    · subst h; rw [if_pos rfl, if_pos rfl, if_pos rfl]; exact keep_append p y false false
    · rw [if_neg h, if_neg h, if_neg h]; exact keep_append p y _ true
  | c :: p, y, false, false => by
    show (if c = 34 then keep false true (p ++ y) else c :: keep (c == 92) false (p ++ y)) = (if c = 34 then keep false true p else c :: keep (c == 92) false p) ++ keep (endE (c == 92) p) (if c = 34 then endQ false true p else endQ (c == 92) false p) y
    by_cases h : c = 34
    · subst h; rw [if_pos rfl, if_pos rfl, if_pos rfl]; exact keep_append p y false true
    · rw [if_neg h, if_neg h, if_neg h, keep_append p y (c == 92) false]; rfl
theorem keep_no : ∀ (x : List Nat) (e : Bool), 34 ∉ x → keep e false x = x
  | [], e, _ => by cases e <;> rfl
  | c :: r, true, h => by show c :: keep false false r = _; rw [keep_no r false fun q => h (.tail _ q)]
  | c :: r, false, h => by
    have hc : c ≠ 34 := fun q => h (q ▸ .head _)
    show (if c = 34 then keep false true r else c :: keep (c == 92) false r) = _
    rw [if_neg hc, keep_no r _ fun q => h (.tail _ q)]
theorem take_more {x : List Nat} {st i c : Nat} {r : List Nat} (h : x.drop i = c :: r) (hst : st ≤ i) : (x.drop st).take (i + 1 - st) = (x.drop st).take (i - st) ++ [c] := by
  have hg : x[i]? = some c := by
    have := congrArg (fun l => l[0]?) h
    simpa using this
  rw [show i + 1 - st = (i - st) + 1 by omega, List.take_add_one, List.getElem?_drop, show st + (i - st) = i by omega, hg]
  rfl
theorem drop_next {x : List Nat} {i c : Nat} {r : List Nat} (h : x.drop i = c :: r) : x.drop (i + 1) = r := by
  rw [← List.drop_drop, h]; rfl
theorem strip_spec (x : List Nat) : ∀ (y : List Nat) (i : Nat) (e : Bool), x.drop i = y →
    (∀ st acc, st ≤ i → endQ e false y = false → stripEnd x (stripGo x (unitsFrom i e y) st none acc) = acc.flatten ++ (x.drop st).take (i - st) ++ keep e false y) ∧
    (∀ st o acc, st ≤ o → o ≤ i → endQ e true y = false → stripEnd x (stripGo x (unitsFrom i e y) st (some o) acc) = acc.flatten ++ (x.drop st).take (o - st) ++ keep e true y)
  | [], i, e, h => by
    have hl : x.length ≤ i := List.drop_eq_nil_iff.mp h
    have fin : ∀ st acc, st ≤ i → stripEnd x (st, acc) = acc.flatten ++ (x.drop st).take (i - st) ++ [] := fun st acc _ => by
      unfold stripEnd
      rw [List.append_nil, List.take_of_length_le (by rw [List.length_drop]; omega)]
      by_cases q : st < x.length
      · rw [if_pos q]; simp
      · rw [if_neg q, List.drop_of_length_le (by omega), List.append_nil]
    refine ⟨fun st acc hst _ => ?_, fun st o acc _ _ hq => ?_⟩
    · cases e with
      | false => exact fin st acc hst
      | true =>
        show stripEnd x (stripGo x [(i - 1, [92])] st none acc) = _
        rw [stripGo_cons, if_neg (by decide)]
        exact fin st acc hst
    · cases e <;> cases hq
  | c :: r, i, true, h => by
    obtain ⟨i1, i2⟩ := strip_spec x r (i + 1) false (drop_next h)
    refine ⟨fun st acc hst hq => ?_, fun st o acc hso hoi hq => ?_⟩
    · show stripEnd x (stripGo x ((i, [92, c]) :: unitsFrom (i + 1) false r) st none acc) = _
      rw [stripGo_cons, if_neg (by simp), i1 st acc (by omega) hq, take_more h hst]
      show _ = _ ++ _ ++ c :: keep false false r
      simp
    · show stripEnd x (stripGo x ((i, [92, c]) :: unitsFrom (i + 1) false r) st (some o) acc) = _
      rw [stripGo_cons, if_neg (by simp), i2 st o acc hso (by omega) hq]
      rfl
  | c :: r, i, false, h => by
    obtain ⟨i1, i2⟩ := strip_spec x r (i + 1) (c == 92) (drop_next h)
    have hu : unitsFrom i false (c :: r) = if c = 92 then unitsFrom (i + 1) true r else (i, [c]) :: unitsFrom (i + 1) false r := rfl
    refine ⟨fun st acc hst hq => ?_, fun st o acc hso hoi hq => ?_⟩
    · have hq : (if c = 34 then endQ false (!false) r else endQ (c == 92) false r) = false := hq
      rw [hu]
      show _ = _ ++ _ ++ (if c = 34 then keep false true r else c :: keep (c == 92) false r)
      by_cases h92 : c = 92
      · subst h92
        rw [if_pos rfl, if_neg (by decide), show ((92 : Nat) == 92) = true from rfl]
        rw [if_neg (by decide)] at hq
        rw [show ((92 : Nat) == 92) = true from rfl] at i1
        rw [i1 st acc (by omega) hq, take_more h hst]
        simp
      · rw [if_neg h92]
        have hb : (c == 92) = false := by simpa using h92
        rw [hb] at i1 i2 hq ⊢
        rw [stripGo_cons]
        by_cases h34 : c = 34
        · subst h34
          rw [if_pos rfl, if_pos rfl]
          rw [if_pos rfl] at hq
          exact i2 st i acc hst (by omega) hq
        · rw [if_neg (by simpa using h34), if_neg h34]
          rw [if_neg h34] at hq
          rw [i1 st acc (by omega) hq, take_more h hst]
          simp
    · have hq : (if c = 34 then endQ false (!true) r else endQ (c == 92) true r) = false := hq
      rw [hu]
      show _ = _ ++ _ ++ (if c = 34 then keep false false r else keep (c == 92) true r)
      by_cases h92 : c = 92
      · subst h92
        rw [if_pos rfl, if_neg (by decide), show ((92 : Nat) == 92) = true from rfl]
        rw [if_neg (by decide)] at hq
        rw [show ((92 : Nat) == 92) = true from rfl] at i2
        exact i2 st o acc hso (by omega) hq
      · rw [if_neg h92]
        have hb : (c == 92) = false := by simpa using h92
        rw [hb] at i1 i2 hq ⊢
        rw [stripGo_cons]
        by_cases h34 : c = 34
        · subst h34
          rw [if_pos rfl, if_pos rfl]
          rw [if_pos rfl] at hq
          show stripEnd x (stripGo x _ (i + 1) none (if st ≠ o then acc ++ [(x.drop st).take (o - st)] else acc)) = _
          rw [i1 (i + 1) _ (Nat.le_refl _) hq, Nat.sub_self]
          by_cases q : st = o
          · subst q; rw [if_neg (by simp), Nat.sub_self]; simp
          · rw [if_pos q]; simp
        · rw [if_neg (by simpa using h34), if_neg h34]
          rw [if_neg h34] at hq
          exact i2 st o acc hso (by omega) hq
theorem strip_keep {x : List Nat} (h : endQ false false x = false) : stripP x = keep false false x := by
  unfold stripP
  by_cases q : 34 ∈ x
  · rw [if_pos q, (strip_spec x x 0 false rfl).1 0 [] (Nat.le_refl 0) h]
    simp
  · rw [if_neg q, keep_no x false q]
/-- units, none of them a mark -/
theorem keep_units : ∀ (x : List Nat) (i : Nat) (e : Bool), (∀ u ∈ unitsFrom i e x, u.2 ≠ [34]) → keep e false x = x ∧ endQ e false x = false
  | [], _, e, _ => by cases e <;> exact ⟨rfl, rfl⟩
  | c :: r, i, true, h => by
    obtain ⟨h1, h2⟩ := keep_units r (i + 1) false fun u hu => h u (.tail _ hu)
    exact ⟨congrArg (c :: ·) h1, h2⟩
  | c :: r, i, false, h => by
    have h' : ∀ u ∈ (if c = 92 then unitsFrom (i + 1) true r else (i, [c]) :: unitsFrom (i + 1) false r), u.2 ≠ [34] := h
    by_cases h92 : c = 92
    · subst h92
      rw [if_pos rfl] at h'
      obtain ⟨h1, h2⟩ := keep_units r (i + 1) true h'
      exact ⟨congrArg (92 :: ·) h1, h2⟩
    · rw [if_neg h92] at h'
      have h34 : c ≠ 34 := fun q => h' _ (.head _) (by rw [q])
      have hb : (c == 92) = false := by simpa using h92
      obtain ⟨h1, h2⟩ := keep_units r (i + 1) false fun u hu => h' u (.tail _ hu)
      constructor
      · show (if c = 34 then _ else c :: keep (c == 92) false r) = _
        rw [if_neg h34, hb, h1]
      · show (if c = 34 then _ else endQ (c == 92) false r) = _
        rw [if_neg h34, hb, h2]
theorem strip_units {x : List Nat} (h : ∀ u ∈ unitsFrom 0 false x, u.2 ≠ [34]) : stripP x = x := by
  obtain ⟨h1, h2⟩ := keep_units x 0 false h
  rw [strip_keep h2, h1]
/-! ### the units of a drawn formula -/
theorem units_append : ∀ (p y : List Nat) (i : Nat) (e : Bool), endE e p = false → unitsFrom i e (p ++ y) = unitsFrom i e p ++ unitsFrom (i + p.length) false y
  | [], y, i, e, h => by
    cases e with
    | false => rfl
    | true => cases h
  | c :: p, y, i, true, h => by
    show (i, [92, c]) :: unitsFrom (i + 1) false (p ++ y) = (i, [92, c]) :: (unitsFrom (i + 1) false p ++ _)
    rw [units_append p y (i + 1) false h, List.length_cons, show i + 1 + p.length = i + (p.length + 1) by omega]
  | c :: p, y, i, false, h => by
    have h' : endE (c == 92) p = false := h
    show (if c = 92 then unitsFrom (i + 1) true (p ++ y) else (i, [c]) :: unitsFrom (i + 1) false (p ++ y)) = (if c = 92 then unitsFrom (i + 1) true p else (i, [c]) :: unitsFrom (i + 1) false p) ++ _
    rw [List.length_cons, show i + (p.length + 1) = i + 1 + p.length by omega]
    by_cases h92 : c = 92
    · subst h92
      rw [if_pos rfl, if_pos rfl]
      exact units_append p y (i + 1) true h'
    · have hb : (c == 92) = false := by simpa using h92
      rw [hb] at h'
      rw [if_neg h92, if_neg h92, units_append p y (i + 1) false h']
      rfl
theorem units_ne : ∀ (x : List Nat) (i : Nat) (e : Bool), ∀ u ∈ unitsFrom i e x, u.2 ≠ []
  | [], i, true, u, h => by rw [List.mem_singleton.mp h]; simp
  | [], i, false, u, h => nomatch h
  | c :: r, i, true, u, h => by
    rcases List.mem_cons.mp h with rfl | h
    · simp
    · exact units_ne r _ _ u h
  | c :: r, i, false, u, h => by
    have h : u ∈ (if c = 92 then unitsFrom (i + 1) true r else (i, [c]) :: unitsFrom (i + 1) false r) := h
    by_cases h92 : c = 92
    · rw [if_pos h92] at h; exact units_ne r _ _ u h
    · rw [if_neg h92] at h
      rcases List.mem_cons.mp h with rfl | h
      · simp
      · exact units_ne r _ _ u h
theorem units_pos : ∀ (x : List Nat) (i : Nat) (e : Bool), ∀ u ∈ unitsFrom i e x, u.1 ≤ i + x.length ∧ u.2.length ≤ 2
  | [], i, true, u, h => by rw [List.mem_singleton.mp h]; exact ⟨by show i - 1 ≤ _; simp, by simp⟩
  | [], i, false, u, h => nomatch h
  | c :: r, i, true, u, h => by
    rcases List.mem_cons.mp h with rfl | h
    · exact ⟨by simp, by simp⟩
    · have := units_pos r _ _ u h
      rw [List.length_cons]; exact ⟨by omega, this.2⟩
  | c :: r, i, false, u, h => by
    have h : u ∈ (if c = 92 then unitsFrom (i + 1) true r else (i, [c]) :: unitsFrom (i + 1) false r) := h
    rw [List.length_cons]
    by_cases h92 : c = 92
    · rw [if_pos h92] at h
      have := units_pos r _ _ u h
      exact ⟨by omega, this.2⟩
    · rw [if_neg h92] at h
      rcases List.mem_cons.mp h with rfl | h
      · exact ⟨by simp, by simp⟩
      · have := units_pos r _ _ u h
        exact ⟨by omega, this.2⟩
theorem units_len : ∀ (x : List Nat) (i : Nat) (e : Bool), (unitsFrom i e x).length ≤ x.length + e.toNat
  | [], i, true => Nat.le_refl 1
  | [], i, false => Nat.le_refl 0
  | c :: r, i, true => by
    have := units_len r (i + 1) false
    show (unitsFrom (i + 1) false r).length + 1 ≤ r.length + 1 + 1
    simp at this; omega
  | c :: r, i, false => by
    have h1 := units_len r (i + 1) true
    have h2 := units_len r (i + 1) false
    show (if c = 92 then unitsFrom (i + 1) true r else (i, [c]) :: unitsFrom (i + 1) false r).length ≤ r.length + 1 + 0
    simp at h1 h2
    by_cases h92 : c = 92
    · rw [if_pos h92]; omega
    · rw [if_neg h92, List.length_cons]; omega
/-- a text cut where a bare sign stands -/
theorem take_units : ∀ (x : List Nat) (i : Nat) (e : Bool) (k p c : Nat), (unitsFrom i e x)[k]? = some (p, [c]) → c ≠ 92 → i ≤ p ∧ unitsFrom i e (x.take (p - i)) = (unitsFrom i e x).take k
  | [], i, true, k, p, c, h, hc => by
    have h : [(i - 1, [92])][k]? = some (p, [c]) := h
    rcases k with _ | k
    · injection h with h; injection h with _ h; injection h with h _; exact absurd h.symm hc
    · simp at h
  | [], i, false, k, p, c, h, hc => by
    have h : ([] : List (Nat × List Nat))[k]? = some (p, [c]) := h
    simp at h
  | b :: r, i, true, k, p, c, h, hc => by
    have h : ((i, [92, b]) :: unitsFrom (i + 1) false r)[k]? = some (p, [c]) := h
    rcases k with _ | k
    · injection h with h; injection h with _ h; cases h
    · rw [List.getElem?_cons_succ] at h
      obtain ⟨h1, h2⟩ := take_units r (i + 1) false k p c h hc
      refine ⟨by omega, ?_⟩
      rw [show p - i = (p - (i + 1)) + 1 by omega]
      show (i, [92, b]) :: unitsFrom (i + 1) false (r.take (p - (i + 1))) = _
      rw [h2]; rfl
  | b :: r, i, false, k, p, c, h, hc => by
    have h : (if b = 92 then unitsFrom (i + 1) true r else (i, [b]) :: unitsFrom (i + 1) false r)[k]? = some (p, [c]) := h
    have hu : unitsFrom i false (b :: r) = if b = 92 then unitsFrom (i + 1) true r else (i, [b]) :: unitsFrom (i + 1) false r := rfl
    rw [hu]
    by_cases h92 : b = 92
    · rw [if_pos h92] at h ⊢
      obtain ⟨h1, h2⟩ := take_units r (i + 1) true k p c h hc
      refine ⟨by omega, ?_⟩
      rw [show p - i = (p - (i + 1)) + 1 by omega]
      show (if b = 92 then unitsFrom (i + 1) true (r.take (p - (i + 1))) else _) = _
      rw [if_pos h92, h2]
    · rw [if_neg h92] at h ⊢
      rcases k with _ | k
      · injection h with h; injection h with h _
        subst h
        refine ⟨Nat.le_refl _, ?_⟩
        rw [Nat.sub_self]; rfl
      · rw [List.getElem?_cons_succ] at h
        obtain ⟨h1, h2⟩ := take_units r (i + 1) false k p c h hc
        refine ⟨by omega, ?_⟩
        rw [show p - i = (p - (i + 1)) + 1 by omega]
        show (if b = 92 then _ else (i, [b]) :: unitsFrom (i + 1) false (r.take (p - (i + 1)))) = _
        rw [if_neg h92, h2]; rfl
/-! ### brackets -/
noncomputable def dp : List (Nat × List Nat) → Nat → Option Nat
  | [], o => some o
  | (_, ch) :: us, o => if ch = [40] then dp us (o + 1) else if ch = [41] then (if o = 0 then none else dp us (o - 1)) else dp us o
theorem checkGo_dp : ∀ (us : List (Nat × List Nat)) (o : Nat), checkGo us o = decide (dp us o = some 0)
  | [], o => by show (o == 0) = decide (some o = some 0); cases o <;> rfl
  | (p, ch) :: us, o => by
    show (if ch = [40] then checkGo us (o + 1) else if ch = [41] then (if o = 0 then false else checkGo us (o - 1)) else checkGo us o) = decide ((if ch = [40] then dp us (o + 1) else if ch = [41] then (if o = 0 then none else dp us (o - 1)) else dp us o) = some 0)
    rw [checkGo_dp us (o + 1), checkGo_dp us (o - 1), checkGo_dp us o]
    by_cases h1 : ch = [40]
    · rw [if_pos h1, if_pos h1]
    · rw [if_neg h1, if_neg h1]
      by_cases h2 : ch = [41]
      · rw [if_pos h2, if_pos h2]
        by_cases h3 : o = 0
        · rw [if_pos h3, if_pos h3]; rfl
        · rw [if_neg h3, if_neg h3]
      · rw [if_neg h2, if_neg h2]
theorem dp_append : ∀ (a b : List (Nat × List Nat)) (o : Nat), dp (a ++ b) o = (dp a o).bind (dp b)
  | [], b, o => rfl
  | (p, ch) :: a, b, o => by
    show (if ch = [40] then dp (a ++ b) (o + 1) else if ch = [41] then (if o = 0 then none else dp (a ++ b) (o - 1)) else dp (a ++ b) o) = (if ch = [40] then dp a (o + 1) else if ch = [41] then (if o = 0 then none else dp a (o - 1)) else dp a o).bind (dp b)
    rw [dp_append a b (o + 1), dp_append a b (o - 1), dp_append a b o]
    by_cases h1 : ch = [40]
    · rw [if_pos h1, if_pos h1]
    · rw [if_neg h1, if_neg h1]
      by_cases h2 : ch = [41]
      · rw [if_pos h2, if_pos h2]
        by_cases h3 : o = 0
        · rw [if_pos h3, if_pos h3]; rfl
        · rw [if_neg h3, if_neg h3]
      · rw [if_neg h2, if_neg h2]
structure Good (us : List (Nat × List Nat)) : Prop where
  all : ∀ o, dp us o = some o
  cut : ∀ o k, ∃ o', o ≤ o' ∧ dp (us.take k) o = some o'
theorem Good.append {a b : List (Nat × List Nat)} (ha : Good a) (hb : Good b) : Good (a ++ b) where
  all o := by rw [dp_append, ha.all]; exact hb.all o
  cut o k := by
    rw [List.take_append, dp_append]
    by_cases h : k ≤ a.length
    · obtain ⟨o', h1, h2⟩ := ha.cut o k
      rw [h2, show k - a.length = 0 by omega]
      exact ⟨o', h1, rfl⟩
    · rw [List.take_of_length_le (by omega), ha.all]
      exact hb.cut o _
theorem Good.wrap {a : List (Nat × List Nat)} {p q : Nat} (ha : Good a) : Good ((p, [40]) :: (a ++ [(q, [41])])) where
  all o := by
    show dp (a ++ [(q, [41])]) (o + 1) = some o
    rw [dp_append, ha.all]
    rfl
  cut o k := by
    rcases k with _ | k
    · exact ⟨o, Nat.le_refl _, rfl⟩
    · show ∃ o', o ≤ o' ∧ dp ((a ++ [(q, [41])]).take k) (o + 1) = some o'
      rw [List.take_append, dp_append]
      by_cases h : k ≤ a.length
      · obtain ⟨o', h1, h2⟩ := ha.cut (o + 1) k
        rw [h2, show k - a.length = 0 by omega]
        exact ⟨o', by omega, rfl⟩
      · rw [List.take_of_length_le (by omega), ha.all, show k - a.length = (k - a.length - 1) + 1 by omega]
        refine ⟨o, Nat.le_refl _, ?_⟩
        show dp ((q, [41]) :: ([] : List (Nat × List Nat)).take _) (o + 1) = some o
        rw [List.take_nil]
        rfl
theorem good_plain {us : List (Nat × List Nat)} (h : ∀ u ∈ us, u.2 ≠ [40] ∧ u.2 ≠ [41]) : Good us := by
  have all : ∀ (us : List (Nat × List Nat)), (∀ u ∈ us, u.2 ≠ [40] ∧ u.2 ≠ [41]) → ∀ o, dp us o = some o := by
    intro us
    induction us with
    | nil => intro _ o; rfl
    | cons u us ih =>
      intro h o
      obtain ⟨p, ch⟩ := u
      show (if ch = [40] then dp us (o + 1) else if ch = [41] then (if o = 0 then none else dp us (o - 1)) else dp us o) = some o
      rw [if_neg (h _ (.head _)).1, if_neg (h _ (.head _)).2]
      exact ih (fun u hu => h u (.tail _ hu)) o
  exact ⟨all us h, fun o k => ⟨o, Nat.le_refl _, all _ (fun u hu => h u (List.mem_of_mem_take hu)) o⟩⟩
/-! ### leaves -/
noncomputable def leafX (k a b : Nat) : List Nat := withHide showL k a b
noncomputable def ctlX (k a : Nat) : List Nat := if k % 2 = 1 then nameL a ++ [ctlL k] else [ctlL k] ++ nameL a
noncomputable def nameX (k a b : Nat) : List Nat := if b = 6 then ctlX k a else nameL a
noncomputable def leafChk (k a b : Nat) : Bool :=
  !(endE false (leafX k a b)) && (unitsFrom 0 false (leafX k a b)).all (fun u => !(u.2 == [34]) && (!(u.2 == [40]) && (!(u.2 == [41]) && !(u.2 == [62])))) && !((leafX k a b).head? == some 40) && !(leafX k a b).isEmpty &&
    (leafX k a b).all (fun c => decide (c < 128) && !(c == 62)) && (nameOfU (unitsFrom 0 false (leafX k a b)) == nameX k a b)
noncomputable def hideChk (k a b : Nat) : Bool := !(endE false (withHide hideL k a b)) && (!(endQ false false (withHide hideL k a b)) && ((withHide hideL k a b).all (fun c => decide (c < 128)) && (keep false false (withHide hideL k a b) == leafX k a b)))
theorem leaves_chk : ((List.range 6).all fun k => (List.range 6).all fun a => (List.range 9).all fun b => leafChk k a b) = true := by decide +kernel
theorem hides_chk : ((List.range 6).all fun k => (List.range 6).all fun a => (List.range 9).all fun b => hideChk k a b) = true := by decide +kernel
theorem all3 {f : Nat → Nat → Nat → Bool} (h : ((List.range 6).all fun k => (List.range 6).all fun a => (List.range 9).all fun b => f k a b) = true) {k a b : Nat} (hk : k < 6) (ha : a < 6) (hb : b < 9) : f k a b = true :=
  List.all_eq_true.mp (List.all_eq_true.mp (List.all_eq_true.mp h k (List.mem_range.mpr hk)) a (List.mem_range.mpr ha)) b (List.mem_range.mpr hb)
structure LeafF (k a b : Nat) : Prop where
  closed : endE false (leafX k a b) = false
  units : ∀ u ∈ unitsFrom 0 false (leafX k a b), u.2 ≠ [34] ∧ u.2 ≠ [40] ∧ u.2 ≠ [41] ∧ u.2 ≠ [62]
  head : (leafX k a b).head? ≠ some 40
  ne : leafX k a b ≠ []
  asc : ∀ c ∈ leafX k a b, c < 128 ∧ c ≠ 62
  name : nameOfU (unitsFrom 0 false (leafX k a b)) = nameX k a b
theorem leaf_facts {k a b : Nat} (hk : k < 6) (ha : a < 6) (hb : b < 9) : LeafF k a b := by
  have h := all3 leaves_chk hk ha hb
  unfold leafChk at h
  simp only [Bool.and_eq_true, Bool.not_eq_true', List.all_eq_true, beq_eq_false_iff_ne, beq_iff_eq, decide_eq_true_iff, ne_eq, List.isEmpty_eq_false_iff] at h
  obtain ⟨⟨⟨⟨⟨h1, h2⟩, h3⟩, h4⟩, h5⟩, h6⟩ := h
  exact ⟨h1, h2, h3, h4, h5, h6⟩
structure HideF (k a b : Nat) : Prop where
  closed : endE false (withHide hideL k a b) = false
  quiet : endQ false false (withHide hideL k a b) = false
  asc : ∀ c ∈ withHide hideL k a b, c < 128
  keep : keep false false (withHide hideL k a b) = leafX k a b
theorem hide_facts {k a b : Nat} (hk : k < 6) (ha : a < 6) (hb : b < 9) : HideF k a b := by
  have h := all3 hides_chk hk ha hb
  unfold hideChk at h
  simp only [Bool.and_eq_true, Bool.not_eq_true', List.all_eq_true, beq_iff_eq, decide_eq_true_iff] at h
  obtain ⟨h1, h2, h3, h4⟩ := h
  exact ⟨h1, h2, h3, h4⟩
theorem finds_ctl {w : World} {k a : Nat} (hk : k < 6) (ha : a < 6) : Finds1 w 48 (Txt.lower (mkS (ctlX k a))) := fun t => by
  have h : ((List.range 6).all fun k => (List.range 6).all fun a => foundB w.params 48 (Txt.lower (mkS (ctlX k a))) t) = true := by kernel_rfl
  exact List.all_eq_true.mp (List.all_eq_true.mp h k (List.mem_range.mpr hk)) a (List.mem_range.mpr ha)
theorem name_low {a : Nat} (ha : a < 6) : mkS (nameL a) ∈ names6 ∧ Txt.lower (mkS (nameL a)) ∈ names6 := by
  rcases a with _ | _ | _ | _ | _ | _ | a
  · decide +kernel
  · decide +kernel
  · decide +kernel
  · decide +kernel
  · decide +kernel
  · decide +kernel
  · omega
noncomputable def nameChk (k a : Nat) : Bool := (nameL a).all (· < 128) && (!tooLong (Txt.lower (mkS (nameL a))).length && ((ctlX k a).all (· < 128) && (!tooLong (Txt.lower (mkS (ctlX k a))).length && (lettersOf (ctlX k a) == nameL a))))
theorem names_chk : ((List.range 6).all fun k => (List.range 6).all fun a => nameChk k a) = true := by decide +kernel
theorem leaf_ok {w : World} {k a b : Nat} (hk : k < 6) (ha : a < 6) (hb : b < 9) : LeafOK w (nameX k a b) (nameL a) := by
  have h := List.all_eq_true.mp (List.all_eq_true.mp names_chk k (List.mem_range.mpr hk)) a (List.mem_range.mpr ha)
  unfold nameChk at h
  simp only [Bool.and_eq_true, Bool.not_eq_true', beq_iff_eq] at h
  obtain ⟨h1, h2, h3, h4, h5⟩ := h
  have hl := nameL_len a
  unfold nameX
  by_cases q : b = 6
  · rw [if_pos q]
    refine ⟨h3, ?_, h4, .inr ⟨finds_ctl hk ha, h5.symm⟩⟩
    unfold ctlX
    split <;> simp <;> omega
  · rw [if_neg q]
    exact ⟨h1, by omega, h2, .inl ⟨finds_name _ (name_low ha).2, rfl⟩⟩
/-! ### drawn formulas are read back -/
noncomputable def DOk (d : Dt) : Prop := ∀ p ∈ d.leaves, p.1 < 6 ∧ p.2.1 < 6 ∧ p.2.2 < 9
theorem DOk.l {l r : Dt} (h : DOk (.node l r)) : DOk l := fun p hp => h p (List.mem_append_left _ hp)
theorem DOk.r {l r : Dt} (h : DOk (.node l r)) : DOk r := fun p hp => h p (List.mem_append_right _ hp)
theorem DOk.leaf {k a b : Nat} (h : DOk (.leaf k a b)) : k < 6 ∧ a < 6 ∧ b < 9 := h _ (.head _)
theorem units_shift : ∀ (x : List Nat) (i j : Nat) (e : Bool), (unitsFrom i e x).map (·.2) = (unitsFrom j e x).map (·.2)
  | [], i, j, true => rfl
  | [], i, j, false => rfl
  | c :: r, i, j, true => by
    show [92, c] :: (unitsFrom (i + 1) false r).map (·.2) = [92, c] :: (unitsFrom (j + 1) false r).map (·.2)
    rw [units_shift r (i + 1) (j + 1) false]
  | c :: r, i, j, false => by
    show (if c = 92 then unitsFrom (i + 1) true r else (i, [c]) :: unitsFrom (i + 1) false r).map (·.2) = (if c = 92 then unitsFrom (j + 1) true r else (j, [c]) :: unitsFrom (j + 1) false r).map (·.2)
    by_cases h : c = 92
    · rw [if_pos h, if_pos h]; exact units_shift r _ _ true
    · rw [if_neg h, if_neg h, List.map_cons, List.map_cons, units_shift r (i + 1) (j + 1) false]
theorem units_any {x : List Nat} {e : Bool} {i j : Nat} {u : Nat × List Nat} (h : u ∈ unitsFrom i e x) : ∃ u' ∈ unitsFrom j e x, u'.2 = u.2 := by
  have : u.2 ∈ (unitsFrom i e x).map (·.2) := List.mem_map_of_mem h
  rw [units_shift x i j e] at this
  obtain ⟨u', h1, h2⟩ := List.mem_map.mp this
  exact ⟨u', h1, h2⟩
structure TextF (x : List Nat) : Prop where
  closed : endE false x = false
  noq : ∀ i, ∀ u ∈ unitsFrom i false x, u.2 ≠ [34]
  good : ∀ i, Good (unitsFrom i false x)
theorem TextF.append {x y : List Nat} (hx : TextF x) (hy : TextF y) : TextF (x ++ y) where
  closed := by rw [endE_append, hx.closed, hy.closed]
  noq i u hu := by
    rw [units_append x y i false hx.closed] at hu
    exact (List.mem_append.mp hu).elim (hx.noq i u) (hy.noq _ u)
  good i := by
    rw [units_append x y i false hx.closed]
    exact (hx.good i).append (hy.good _)
theorem units_wrap {x : List Nat} (h : endE false x = false) (i : Nat) : unitsFrom i false ([40] ++ x ++ [41]) = (i, [40]) :: (unitsFrom (i + 1) false x ++ [(i + 1 + x.length, [41])]) := by
  show (i, [40]) :: unitsFrom (i + 1) false (x ++ [41]) = _
  rw [units_append x [41] (i + 1) false h]
  rfl
theorem TextF.wrap {x : List Nat} (hx : TextF x) : TextF ([40] ++ x ++ [41]) where
  closed := by rw [endE_append, endE_append]; show endE (endE false x) [41] = false; rw [hx.closed]; rfl
  noq i u hu := by
    rw [units_wrap hx.closed] at hu
    rcases List.mem_cons.mp hu with rfl | hu
    · simp
    · rcases List.mem_append.mp hu with hu | hu
      · exact hx.noq _ u hu
      · rw [List.mem_singleton.mp hu]; simp
  good i := by rw [units_wrap hx.closed]; exact (hx.good _).wrap
theorem TextF.arrow : TextF [45, 62] where
  closed := rfl
  noq i u hu := by
    have hu : u ∈ [(i, [45]), (i + 1, [62])] := hu
    simp at hu
    rcases hu with rfl | rfl <;> simp
  good i := good_plain (us := [(i, [45]), (i + 1, [62])]) (by simp)
theorem TextF.leaf {k a b : Nat} (h : LeafF k a b) : TextF (leafX k a b) where
  closed := h.closed
  noq i u hu := by
    obtain ⟨u', h1, h2⟩ := units_any (j := 0) hu
    rw [← h2]; exact (h.units u' h1).1
  good i := good_plain fun u hu => by
    obtain ⟨u', h1, h2⟩ := units_any (j := 0) hu
    rw [← h2]; exact ⟨(h.units u' h1).2.1, (h.units u' h1).2.2.1⟩
noncomputable def wrapS (l : Dt) : List Nat := if l.isNode then [40] ++ l.str showL ++ [41] else l.str showL
theorem str_node (l r : Dt) : (Dt.node l r).str showL = wrapS l ++ [45, 62] ++ r.str showL := rfl
theorem textF_wrapS {l : Dt} (h : TextF (l.str showL)) : TextF (wrapS l) := by
  unfold wrapS
  split
  · exact h.wrap
  · exact h
theorem textF : ∀ {d : Dt}, DOk d → TextF (d.str showL)
  | .leaf k a b, h => .leaf (leaf_facts h.leaf.1 h.leaf.2.1 h.leaf.2.2)
  | .node l r, h => ((textF_wrapS (textF h.l)).append .arrow).append (textF h.r)
theorem asc_d : ∀ {d : Dt}, DOk d → ∀ c ∈ d.str showL, c < 128
  | .leaf k a b, h, c, hc => ((leaf_facts h.leaf.1 h.leaf.2.1 h.leaf.2.2).asc c hc).1
  | .node l r, h, c, hc => by
    rw [str_node] at hc
    rcases List.mem_append.mp hc with hc | hc
    · rcases List.mem_append.mp hc with hc | hc
      · unfold wrapS at hc
        have hl := asc_d h.l c
        split at hc
        · simp at hc
          rcases hc with rfl | hc | rfl
          · decide
          · exact hl hc
          · decide
        · exact hl hc
      · simp at hc
        rcases hc with rfl | rfl <;> decide
    · exact asc_d h.r c hc
theorem two_units {a b : List Nat} (ha : a ≠ []) (hb : b ≠ []) (h : a ++ b = [45, 62]) : a = [45] ∧ b = [62] := by
  cases a with
  | nil => exact absurd rfl ha
  | cons x a =>
    cases a with
    | nil => injection h with h1 h2; subst h1; exact ⟨rfl, h2⟩
    | cons y a =>
      injection h with h1 h2
      injection h2 with h2 h3
      exact absurd (List.append_eq_nil_iff.mp h3).2 hb
theorem unitAt_mem {us : List (Nat × List Nat)} {k : Nat} (h : k < us.length) : unitAt us k ∈ us := List.mem_of_getElem? (unitAt_get h)
theorem arrow_units {x : List Nat} {k : Nat} (hk : k < (unitsFrom 0 false x).length) (h : arrowAt (unitsFrom 0 false x) k = true) : (unitAt (unitsFrom 0 false x) (k - 1)).2 = [45] ∧ (unitAt (unitsFrom 0 false x) k).2 = [62] :=
  two_units (units_ne _ _ _ _ (unitAt_mem (by omega))) (units_ne _ _ _ _ (unitAt_mem hk)) (of_decide_eq_true h)
theorem take_arrow {x : List Nat} {k : Nat} (hk : k < (unitsFrom 0 false x).length) (h : arrowAt (unitsFrom 0 false x) k = true) : unitsFrom 0 false (x.take (unitAt (unitsFrom 0 false x) (k - 1)).1) = (unitsFrom 0 false x).take (k - 1) := by
  have h1 := (arrow_units hk h).1
  have h2 := unitAt_get (us := unitsFrom 0 false x) (k := k - 1) (by omega)
  have h3 : unitAt (unitsFrom 0 false x) (k - 1) = ((unitAt (unitsFrom 0 false x) (k - 1)).1, [45]) := by rw [← h1]
  rw [h3] at h2
  have := (take_units x 0 false (k - 1) _ 45 h2 (by decide)).2
  rw [Nat.sub_zero] at this
  exact this
theorem strip_take {x : List Nat} (hx : TextF x) {k : Nat} (hk : k < (unitsFrom 0 false x).length) (h : arrowAt (unitsFrom 0 false x) k = true) : stripP (x.take (unitAt (unitsFrom 0 false x) (k - 1)).1) = x.take (unitAt (unitsFrom 0 false x) (k - 1)).1 := by
  refine strip_units fun u hu => ?_
  rw [take_arrow hk h] at hu
  exact hx.noq 0 u (List.mem_of_mem_take hu)
theorem text_ok {x : List Nat} (hx : TextF x) (ha : ∀ c ∈ x, c < 128) (hl : x.length ≤ 900) : TextOK x (unitsFrom 0 false x) where
  isU := rfl
  asc := List.all_eq_true.mpr fun c hc => decide_eq_true (ha c hc)
  len := hl
  ulen := by have := units_len x 0 false; simp at this; omega
  pos u hu := by have := units_pos x 0 false u hu; exact ⟨by omega, this.2⟩
  cut k h1 h2 h := by
    rw [strip_take hx h2 h]
    refine ⟨List.all_eq_true.mpr fun c hc => decide_eq_true (ha c (List.mem_of_mem_take hc)), ?_⟩
    rw [List.length_take]; omega
noncomputable def Dt.ht : Dt → Nat
  | .leaf .. => 0
  | .node l r => max l.ht r.ht + 1
theorem parse_d {w : World} : ∀ (d : Dt) (D : Nat), DOk d → d.leaves.length ≤ 6 → d.ht ≤ D → ParseOK w D (d.str showL) d.fm
  | .leaf k a b, D, h, hl, hD => by
    have hf := leaf_facts h.leaf.1 h.leaf.2.1 h.leaf.2.2
    have hlen := Dt.str_len showL_len (.leaf k a b)
    refine ParseOK.leaf (us := unitsFrom 0 false (leafX k a b)) (text_ok (textF h) (asc_d h) (by omega)) (fun j h1 h2 => ?_) ?_
    · unfold cutAt
      cases e : arrowAt (unitsFrom 0 false (leafX k a b)) j with
      | false => rfl
      | true => exact absurd (arrow_units h2 e).2 (hf.units _ (unitAt_mem h2)).2.2.2
    · rw [hf.name]
      exact leaf_ok h.leaf.1 h.leaf.2.1 h.leaf.2.2
  | .node l r, D, h, hl, hD => by
    obtain ⟨D, rfl⟩ : ∃ D', D = D' + 1 := ⟨D - 1, by have : max l.ht r.ht + 1 ≤ D := hD; omega⟩
    have hD' : max l.ht r.ht + 1 ≤ D + 1 := hD
    have hll : l.leaves.length + r.leaves.length ≤ 6 := by have : (l.leaves ++ r.leaves).length ≤ 6 := hl; rwa [List.length_append] at this
    have hlen := Dt.str_len showL_len (.node l r)
    have ih1 := parse_d (w := w) l D h.l (by omega) (by omega)
    have ih2 := parse_d (w := w) r D h.r (by omega) (by omega)
    have tl := textF h.l
    have tw := textF_wrapS tl
    have tx := textF h
    have hus : unitsFrom 0 false ((Dt.node l r).str showL) = unitsFrom 0 false (wrapS l) ++ (((wrapS l).length, [45]) :: ((wrapS l).length + 1, [62]) :: unitsFrom ((wrapS l).length + 2) false (r.str showL)) := by
      rw [str_node, List.append_assoc, units_append _ _ 0 false tw.closed, Nat.zero_add]
      rfl
    have hn1 : (unitsFrom 0 false ((Dt.node l r).str showL))[(unitsFrom 0 false (wrapS l)).length]? = some ((wrapS l).length, [45]) := by
      rw [hus, List.getElem?_append_right (Nat.le_refl _), Nat.sub_self]; rfl
    have hn2 : (unitsFrom 0 false ((Dt.node l r).str showL))[(unitsFrom 0 false (wrapS l)).length + 1]? = some ((wrapS l).length + 1, [62]) := by
      rw [hus, List.getElem?_append_right (by omega), Nat.add_sub_cancel_left]; rfl
    have hlt : (unitsFrom 0 false (wrapS l)).length + 1 < (unitsFrom 0 false ((Dt.node l r).str showL)).length := (List.getElem?_eq_some_iff.mp hn2).1
    have ha1 : unitAt (unitsFrom 0 false ((Dt.node l r).str showL)) (unitsFrom 0 false (wrapS l)).length = ((wrapS l).length, [45]) := by
      have := unitAt_get (us := unitsFrom 0 false ((Dt.node l r).str showL)) (k := (unitsFrom 0 false (wrapS l)).length) (by omega)
      rw [hn1] at this; injection this with this; exact this.symm
    have ha2 : unitAt (unitsFrom 0 false ((Dt.node l r).str showL)) ((unitsFrom 0 false (wrapS l)).length + 1) = ((wrapS l).length + 1, [62]) := by
      have := unitAt_get (us := unitsFrom 0 false ((Dt.node l r).str showL)) (k := (unitsFrom 0 false (wrapS l)).length + 1) hlt
      rw [hn2] at this; injection this with this; exact this.symm
    have htake : ((Dt.node l r).str showL).take (wrapS l).length = wrapS l := by
      rw [str_node, List.append_assoc, List.take_left]
    have hdrop : ((Dt.node l r).str showL).drop ((wrapS l).length + 2) = r.str showL := by
      rw [str_node, show (wrapS l).length + 2 = (wrapS l ++ [45, 62]).length by simp, List.drop_left]
    refine ParseOK.node (us := unitsFrom 0 false ((Dt.node l r).str showL)) (j := (unitsFrom 0 false (wrapS l)).length + 1) (text_ok tx (asc_d h) (by omega)) ?_ (by omega) hlt ?_ (fun k h1 h2 => ?_) ?_ ?_ ?_
    · rw [str_node]; simp
    · -- the cut
      unfold cutAt arrowAt
      rw [Nat.add_sub_cancel, ha1, ha2, htake]
      show (true && checkP (wrapS l)) = true
      unfold checkP
      rw [strip_units (tw.noq 0), checkGo_dp, (tw.good 0).all]
      rfl
    · -- no cut before it
      unfold cutAt
      cases e : arrowAt (unitsFrom 0 false ((Dt.node l r).str showL)) k with
      | false => rfl
      | true =>
        have hau := arrow_units (by omega) e
        rcases Nat.lt_or_ge k (unitsFrom 0 false (wrapS l)).length with hk | hk
        · show checkP _ = false
          unfold checkP
          rw [strip_take tx (by omega) e, take_arrow (by omega) e, hus, List.take_append_of_le_length (by omega)]
          have hkk : unitAt (unitsFrom 0 false ((Dt.node l r).str showL)) k = unitAt (unitsFrom 0 false (wrapS l)) k := by
            unfold unitAt
            rw [hus, List.getD_eq_getElem?_getD, List.getElem?_append_left hk, ← List.getD_eq_getElem?_getD]
          have hk1 : unitAt (unitsFrom 0 false ((Dt.node l r).str showL)) (k - 1) = unitAt (unitsFrom 0 false (wrapS l)) (k - 1) := by
            unfold unitAt
            rw [hus, List.getD_eq_getElem?_getD, List.getElem?_append_left (by omega), ← List.getD_eq_getElem?_getD]
          rw [hkk, hk1] at hau
          cases l with
          | leaf a b c =>
            exact absurd hau.2 ((leaf_facts h.l.leaf.1 h.l.leaf.2.1 h.l.leaf.2.2).units _ (unitAt_mem (us := unitsFrom 0 false (leafX a b c)) hk)).2.2.2
          | node l1 l2 =>
            have hw : unitsFrom 0 false (wrapS (.node l1 l2)) = (0, [40]) :: (unitsFrom 1 false ((Dt.node l1 l2).str showL) ++ [(1 + ((Dt.node l1 l2).str showL).length, [41])]) := units_wrap tl.closed 0
            rw [hw] at hau hk ⊢
            rw [List.length_cons, List.length_append, List.length_singleton] at hk
            obtain ⟨k, rfl⟩ : ∃ k', k = k' + 2 := by
              rcases k with _ | _ | k
              · omega
              · have : [40] = [45] := hau.1
                simp at this
              · exact ⟨k, rfl⟩
            rw [show k + 2 - 1 = k + 1 by omega, List.take_succ_cons, List.take_append_of_le_length (by omega), checkGo_dp]
            show decide (dp ((unitsFrom 1 false ((Dt.node l1 l2).str showL)).take k) 1 = some 0) = false
            obtain ⟨o', ho, e'⟩ := (tl.good 1).cut 1 k
            rw [e']
            refine decide_eq_false fun q => ?_
            injection q with q
            omega
        · have hk : k = (unitsFrom 0 false (wrapS l)).length := by omega
          rw [hk, ha1] at hau
          have := hau.2
          simp at this
    · rw [Nat.add_sub_cancel, ha1]
      show 1 ≤ (wrapS l).length
      cases l with
      | leaf a b c =>
        have := (leaf_facts h.l.leaf.1 h.l.leaf.2.1 h.l.leaf.2.2).ne
        exact List.length_pos_iff.mpr this
      | node l1 l2 => show 1 ≤ ([40] ++ _ ++ [41]).length; simp
    · rw [Nat.add_sub_cancel, ha1]
      show ParseOK w D (frontOf _ (wrapS l).length) l.fm
      have : frontOf ((Dt.node l r).str showL) (wrapS l).length = l.str showL := by
        unfold frontOf
        cases l with
        | leaf a b c =>
          have hf := leaf_facts h.l.leaf.1 h.l.leaf.2.1 h.l.leaf.2.2
          rw [if_neg, htake]; rfl
          rw [str_node, List.append_assoc]
          show ¬ (leafX a b c ++ _).head? = some 40
          have hh := hf.head
          cases e : leafX a b c with
          | nil => exact absurd e hf.ne
          | cons y ys => rw [e] at hh; exact hh
        | node l1 l2 =>
          rw [if_pos (by rfl)]
          show ((((Dt.node l1 l2).str showL ++ [41]) ++ [45, 62]) ++ r.str showL).take _ = _
          have e : (wrapS (.node l1 l2)).length - 1 - 1 = ((Dt.node l1 l2).str showL).length := by
            show ([40] ++ _ ++ [41]).length - 1 - 1 = _
            simp
          rw [e, List.append_assoc, List.append_assoc, List.take_left]
      rw [this]
      exact ih1
    · rw [Nat.add_sub_cancel, ha1]
      show ParseOK w D (((Dt.node l r).str showL).drop ((wrapS l).length + 2)) r.fm
      rw [hdrop]
      exact ih2
/-! ### the marks go -/
structure HideT (x y : List Nat) : Prop where
  closed : endE false x = false
  quiet : endQ false false x = false
  keep : keep false false x = y
theorem HideT.append {x y x' y' : List Nat} (h : HideT x y) (h' : HideT x' y') : HideT (x ++ x') (y ++ y') where
  closed := by rw [endE_append, h.closed, h'.closed]
  quiet := by rw [endQ_append, h.closed, h.quiet, h'.quiet]
  keep := by rw [keep_append, h.closed, h.quiet, h.keep, h'.keep]
theorem hide_text : ∀ {d : Dt}, DOk d → HideT (d.str hideL) (d.str showL)
  | .leaf k a b, h => by
    have hf := hide_facts h.leaf.1 h.leaf.2.1 h.leaf.2.2
    exact ⟨hf.closed, hf.quiet, hf.keep⟩
  | .node l r, h => by
    have hw : HideT (if l.isNode then [40] ++ l.str hideL ++ [41] else l.str hideL) (wrapS l) := by
      unfold wrapS
      by_cases q : l.isNode = true
      · rw [if_pos q, if_pos q]
        exact ((HideT.mk rfl rfl rfl : HideT [40] [40]).append (hide_text h.l)).append ⟨rfl, rfl, rfl⟩
      · rw [if_neg q, if_neg q]
        exact hide_text h.l
    exact (hw.append ⟨rfl, rfl, rfl⟩).append (hide_text h.r)
theorem strip_d {d : Dt} (h : DOk d) : stripP (d.str hideL) = d.str showL := by
  have := hide_text h
  rw [strip_keep this.quiet, this.keep]
theorem asc_h : ∀ {d : Dt}, DOk d → ∀ c ∈ d.str hideL, c < 128
  | .leaf k a b, h, c, hc => (hide_facts h.leaf.1 h.leaf.2.1 h.leaf.2.2).asc c hc
  | .node l r, h, c, hc => by
    have hc : c ∈ (if l.isNode then [40] ++ l.str hideL ++ [41] else l.str hideL) ++ [45, 62] ++ r.str hideL := hc
    rcases List.mem_append.mp hc with hc | hc
    · rcases List.mem_append.mp hc with hc | hc
      · have hl := asc_h h.l c
        split at hc
        · simp at hc
          rcases hc with rfl | hc | rfl
          · decide
          · exact hl hc
          · decide
        · exact hl hc
      · simp at hc
        rcases hc with rfl | rfl <;> decide
    · exact asc_h h.r c hc
/-! ### the text turned -/
structure Nq (x : List Nat) : Prop where
  closed : endE false x = false
  noq : ∀ i, ∀ u ∈ unitsFrom i false x, u.2 ≠ [34]
theorem TextF.nq {x : List Nat} (h : TextF x) : Nq x := ⟨h.closed, h.noq⟩
theorem Nq.append {x y : List Nat} (hx : Nq x) (hy : Nq y) : Nq (x ++ y) where
  closed := by rw [endE_append, hx.closed, hy.closed]
  noq i u hu := by
    rw [units_append x y i false hx.closed] at hu
    exact (List.mem_append.mp hu).elim (hx.noq i u) (hy.noq _ u)
theorem Nq.one {c : Nat} (h1 : c ≠ 92) (h2 : c ≠ 34) : Nq [c] where
  closed := by show (c == 92) = false; simpa using h1
  noq i u hu := by
    have hu : u ∈ (if c = 92 then unitsFrom (i + 1) true [] else (i, [c]) :: unitsFrom (i + 1) false []) := hu
    rw [if_neg h1] at hu
    rcases List.mem_cons.mp hu with rfl | hu
    · simpa using h2
    · cases hu
structure Turn (d : Dt) (l : Dt) (pre post : List Nat) : Prop where
  eq : d.str showL = pre ++ [45, 62] ++ post
  no : 62 ∉ pre
  npre : Nq pre
  npost : Nq post
  flat : l.isNode = false → TextF pre ∧ TextF post
  deep : l.isNode = true → ∃ y tl, TextF y ∧ post = y ++ 41 :: tl
theorem turn : ∀ (l r : Dt), DOk (.node l r) → ∃ pre post, Turn (.node l r) l pre post
  | .leaf k a b, r, h => by
    have hf := leaf_facts h.l.leaf.1 h.l.leaf.2.1 h.l.leaf.2.2
    have t1 := TextF.leaf hf
    have t2 := textF h.r
    exact ⟨leafX k a b, r.str showL, rfl, fun q => (hf.asc _ q).2 rfl, t1.nq, t2.nq, fun _ => ⟨t1, t2⟩, fun q => by cases q⟩
  | .node l1 l2, r, h => by
    obtain ⟨pre, post, ht⟩ := turn l1 l2 h.l
    have t2 := textF h.r
    refine ⟨40 :: pre, post ++ ([41] ++ ([45, 62] ++ r.str showL)), ?_, ?_, ?_, ?_, (fun q => by cases q), fun _ => ?_⟩
    · rw [str_node]
      show ([40] ++ (Dt.node l1 l2).str showL ++ [41]) ++ [45, 62] ++ r.str showL = _
      rw [ht.eq]
      simp
    · intro q
      rcases List.mem_cons.mp q with q | q
      · cases q
      · exact ht.no q
    · exact Nq.append (x := [40]) (.one (by decide) (by decide)) ht.npre
    · exact ht.npost.append ((Nq.one (by decide) (by decide)).append (TextF.arrow.nq.append t2.nq))
    · cases e : l1.isNode with
      | false => exact ⟨post, _, (ht.flat e).2, rfl⟩
      | true =>
        obtain ⟨y, tl, hy, rfl⟩ := ht.deep e
        exact ⟨y, tl ++ ([41] ++ ([45, 62] ++ r.str showL)), hy, by simp⟩
theorem Turn.check {d l : Dt} {pre post : List Nat} (h : Turn d l pre post) : stripP (post ++ pre) = post ++ pre ∧ checkP (post ++ pre) = !l.isNode := by
  have hn := h.npost.append h.npre
  have hs := strip_units (hn.noq 0)
  refine ⟨hs, ?_⟩
  unfold checkP
  rw [hs, checkGo_dp]
  cases e : l.isNode with
  | false =>
    obtain ⟨t1, t2⟩ := h.flat e
    rw [((t2.append t1).good 0).all]
    rfl
  | true =>
    obtain ⟨y, tl, hy, rfl⟩ := h.deep e
    rw [List.append_assoc, units_append _ _ 0 false hy.closed, dp_append, (hy.good 0).all]
    rfl
/-! ### what the law needs to know of a drawn formula -/
theorem dok_of {d : Dt} {many ltr msk : Nat} (hm : many ≤ 6) (h : d.leaves = leavesOf many ltr msk) : DOk d := fun p hp => by
  rw [h] at hp
  obtain ⟨k, hk, rfl⟩ := List.mem_map.mp hp
  have := List.mem_range.mp hk
  exact ⟨by show k < 6; omega, Nat.mod_lt _ (by decide), Nat.mod_lt _ (by decide)⟩
theorem leavesOf_len (many ltr msk : Nat) : (leavesOf many ltr msk).length = many := by
  unfold leavesOf; rw [List.length_map, List.length_range]
theorem names_d : ∀ {d : Dt}, DOk d → NamesOk d.fm
  | .leaf k a b, h => .leaf (name_low h.leaf.2.1).1
  | .node l r, h => .node (names_d h.l) (names_d h.r)
theorem size_d : ∀ d : Dt, d.fm.size = d.leaves.length
  | .leaf k a b => rfl
  | .node l r => by
    show l.fm.size + r.fm.size = (l.leaves ++ r.leaves).length
    rw [List.length_append, size_d l, size_d r]
theorem ht_leaves : ∀ d : Dt, d.ht + 1 ≤ d.leaves.length
  | .leaf k a b => Nat.le_refl 1
  | .node l r => by
    have h1 := ht_leaves l
    have h2 := ht_leaves r
    show max l.ht r.ht + 1 + 1 ≤ (l.leaves ++ r.leaves).length
    rw [List.length_append]; omega
/-! ### law: the four sums -/
noncomputable abbrev laEnv (w : World) (L : Addr) : Env := callEnvC (fdAt w.params 254) L 254
noncomputable def laAt (P : Params) (i : Nat) : Stmt := (bodyAt P 254).getD i (.Pass ⟨0, 0, 0, 0⟩)
theorem fmod_bound (a : Int) : ∃ q : Nat, a.fmod 1000000 = (q : Int) ∧ q < 1000000 := by
  have e : a.fmod 1000000 = a % 1000000 := Int.fmod_eq_emod_of_nonneg _ (by decide)
  refine ⟨(a % 1000000).toNat, ?_, ?_⟩ <;> omega
theorem slicePick_mem {vs : List Value} {lo hi st : Option Int} {v : Value} (h : v ∈ (slicePick vs.toArray lo hi st).toList) : v ∈ vs := by
  unfold slicePick at h
  rw [List.toList_toArray, List.mem_filterMap] at h
  obtain ⟨i, _, e⟩ := h
  rw [List.getElem?_toArray] at e
  exact List.mem_of_getElem? e
section
variable {w : World} {c : Ctx0} {G : Array GenState} {Z : Zone} {ns : List (Addr × (Str → Option Value))} {l : List (Addr × Obj)} {s : Shared} {A : Around} {E : Value → Shared → Prop}
/-- l[lo:hi:st] of a list -/
theorem sl_listS {env : Env} {pos : Pos} {value st : PySem.Expr} {lower upper : Option PySem.Expr} {p : Pos} {Q : Value → Shared → Prop}
    (hq : wpAny (model PG w) A (eval value env) (fun o s₁ => wpAny (model PG w) A (evalPart lower env) (fun x s₂ => wpAny (model PG w) A (evalPart upper env) (fun y s₃ => wpAny (model PG w) A (evalPart (some st) env) (fun z s₄ => ∃ (a : Addr) (vs : List Value) (lo hi sp : Option (Int × Tok)), o = .ref a ∧ x = partV lo ∧ y = partV hi ∧ z = partV sp ∧ sp.map (·.1) ≠ some 0 ∧ ∃ c G Z r l, S w c G Z r l s₄ ∧ s₄.heap.IsList a vs.toArray ∧ vs.length ≤ sizeLine ∧
      ∀ D s', c.sc.heap.get? D = none → S w c G Z r ((D, W.listOf (slicePick vs.toArray (lo.map (·.1)) (hi.map (·.1)) (sp.map (·.1))) 0) :: l) s' → Q (.ref D) s') E s₃) E s₂) E s₁) E s)
    (ht : (fun o r => letTemporaryGo value o r) = fun _ _ => pure () := by kernel_rfl) :
    wpAny (model PG w) A (eval (.Subscript value (.Slice lower upper (some st) p) pos) env) Q E s := by
  refine wpAny_Subscript_Slice_step (T := "list") slot_list_getitem.lookup (wpAny_mono hq (fun o s₁ h₁ => ?_) fun _ _ x => x) (fun o r => congrFun (congrFun ht o) r)
  refine wpAny_Slice (wpAny_mono h₁ (fun x s₂ h₂ => ?_) fun _ _ x => x)
  refine wpAny_mono h₂ (fun y s₃ h₃ => ?_) fun _ _ x => x
  refine wpAny_mono h₃ (fun z s₄ h₄ => ?_) fun _ _ x => x
  obtain ⟨a, vs, lo, hi, sp, rfl, rfl, rfl, rfl, hne, c, G, Z, r, l, hS, ha, hsz, hQ⟩ := h₄
  have h1 := hS.heapK (h' := s₄.heap.push { cls := .type "slice", data := .fields #[partV lo, partV hi, partV sp] }) fun b o' e => Heap.get?_push_of_some _ e
  have hl : ({ s₄ with heap := s₄.heap.push { cls := .type "slice", data := .fields #[partV lo, partV hi, partV sp] } } : Shared).heap.IsList a vs.toArray := ha.push _
  refine ⟨hl.typeIs, wpAny_getItem_list_slice hl (Heap.IsSliceOf.new ..) (part_is lo) (part_is hi) (part_is sp) hne ?_ (by rw [List.size_toArray]; exact hsz)⟩
  exact hQ _ _ h1.new (h1.push (W.listOf (slicePick vs.toArray (lo.map (·.1)) (hi.map (·.1)) (sp.map (·.1))) 0) rfl)
/-- start = [..] -/
theorem la_start {L : Addr} {m : Str → Option Value} {Q : Flow → Shared → Prop} {st' : Stmt} (hst : st' = laAt w.params 0)
    (hS : S w c G Z (((laEnv w L).locals, m) :: ns) ((L + 2, cellO none) :: l) s)
    (kk : ∀ St vs s', c.sc.heap.get? St = none → NatsV vs [2, 13074, 0, 10280] → S w c G Z (((laEnv w L).locals, m) :: ns) ((St, W.listOf vs.toArray 0) :: (L + 2, cellO (some (.ref St))) :: l) s' → Q .next s') : wpAny (model PG w) A (exec st' (laEnv w L)) Q E s := by
  subst hst
  refine wpAny_Assign_Name ?_
  with_reducible refine mk_list ?_
  with_reducible refine args_cons ?_
  with_reducible refine con_int hS fun t1 s1 hS1 => ?_
  with_reducible refine args_cons ?_
  with_reducible refine con_int hS1 fun t2 s2 hS2 => ?_
  with_reducible refine args_cons ?_
  with_reducible refine con_int hS2 fun t3 s3 hS3 => ?_
  with_reducible refine args_one ?_
  with_reducible refine con_int hS3 fun t4 s4 hS4 => ?_
  refine ⟨_, _, _, _, _, hS4, (by show 4 ≤ sizeLine; decide), fun St s5 hSt hS5 => ?_⟩
  refine stc hS5 (a := L + 2) (.tail .head) fun s6 hS6 => ?_
  exact kk St _ s6 hSt (.cons 2 t1 (.cons 13074 t2 (.cons 0 t3 (.cons 10280 t4 .nil)))) hS6
/-- sums = [..] -/
theorem la_sums {L a St : Addr} {m : Str → Option Value} {o : Obj} {vs svs : List Value} {on : Nat} {Q : Flow → Shared → Prop} {st' : Stmt} (hst : st' = laAt w.params 1) (hr : Rm A 10) (hT : c.T = [])
    (hS : S w c G Z (((laEnv w L).locals, m) :: ns) ((St, W.listOf svs.toArray 0) :: (L + 2, cellO (some (.ref St))) :: (L + 1, cellO (some (.ref a))) :: l) s)
    (hsv : NatsV svs [2, 13074, 0, 10280]) (ha : Z a = some o) (hoc : o.cls = .type "list") (hod : o.data = .seq vs.toArray on) (hvl : vs.length ≤ 63) (hvi : ∀ v ∈ vs, ∃ i t, v = .int i t)
    (kk : ∀ D ys xs k s', xs.length = 4 → (∀ x ∈ xs, x < 1000000) → NatsV ys xs → S w c G Z (((laEnv w L).locals, fun y => if y = Str.ofString "sums" then some (.ref D) else m y) :: ns) ((D, W.listOf ys.toArray k) :: (St, W.listOf svs.toArray 0) :: (L + 2, cellO (some (.ref St))) :: (L + 1, cellO (some (.ref a))) :: l) s' → Q .next s') : wpAny (model PG w) A (exec st' (laEnv w L)) Q E s := by
  subst hst
  refine comp_asg (cl := [(Str.ofString "start", L + 2), (Str.ofString "script", L + 1)]) ?_
  with_reducible refine callT (T := "range") ?_
  with_reducible refine is_ldb hS.toZ0 (by kernel_rfl) (by kernel_rfl) ?_
  with_reducible refine args_one ?_
  with_reducible refine con_int hS fun t1 s1 hS1 => ?_
  refine iter_range1 (n := 4) hS1 (by omega) fun r ro s3 hS3 hIt => ?_
  refine hIt _ _ _ _ _ _ _ hS3 (.head _) fun I io s4 hJ hIc hS4 => ?_
  refine ⟨c, G, Z, _, ns, _, I, io, kRange 0 4, fun i ys Z' => ∃ xs, NatsV ys xs ∧ xs.length = i ∧ (∀ x ∈ xs, x < 1000000) ∧ Z' = Z, rfl, itr_range hr.handled I 0 4, hJ, (by show 4 ≤ 10000; decide), hS4, (fun a ha => by rw [hT] at ha; cases ha), ⟨[], .nil, rfl, (fun x hx => nomatch hx), rfl⟩, (fun _ _ _ _ _ _ _ => trivial), ?_, ?_⟩
  · intro C D2 i v ys Z' m' k' io' s8 E' hi hP hJ' hI hle hS8
    obtain ⟨xs, hxs, hxl, hxb, rfl⟩ := hI
    obtain ⟨ti, rfl⟩ := hP
    have hi : i < 4 := hi
    rw [show (0 : Int) + (i : Int) * 1 = (i : Int) by omega]
    refine wpAny_pure ?_
    refine wpAny_assign_Name (st hS8 fun s9 hS9 => ?_)
    refine wpAny_pure ?_
    rw [if_pos rfl]
    refine absQ fun Q5 hQ5 => ?_
    with_reducible refine wpAny_BinOp ?_
    with_reducible refine wpAny_BinOp ?_
    with_reducible refine Subscript_ ?_
    with_reducible refine ldc hS9 (a := L + 2) (v := .ref St) (List.Mem.tail _ (List.Mem.tail _ (List.Mem.tail _ (List.Mem.tail _ (List.Mem.head _))))) ?_
    with_reducible refine ld hS9 (v := .int (i : Nat) ti) ?_ ?_
    · walk_at "lk"
    obtain ⟨st0, tst, hst0⟩ : ∃ (x : Nat) (t : Tok), svs[i]? = some (.int (x : Int) t) := by
      have hx : i < [2, 13074, 0, 10280].length := hi
      obtain ⟨t, ht⟩ := NatsV.get hsv i hx
      exact ⟨_, t, ht⟩
    refine item_at (v := .int (st0 : Int) tst) (hS9.own' (.tail _ (.tail _ (.tail _ (.head _))))) (by omega) (by omega) (by rw [Int.toNat_natCast, List.getElem?_toArray]; exact hst0) ?_
    with_reducible refine callB (id := "sum") ?_
    with_reducible refine is_ldb hS9.toZ0 (by kernel_rfl) (by kernel_rfl) ?_
    with_reducible refine args_one ?_
    refine comp (cl := []) ?_
    with_reducible refine sl_listS ?_
    with_reducible refine ldc hS9 (a := L + 1) (v := .ref a) (List.Mem.tail _ (List.Mem.tail _ (List.Mem.tail _ (List.Mem.tail _ (List.Mem.tail _ (List.Mem.head _)))))) ?_
    refine part_some ?_
    with_reducible refine ld hS9 (v := .int (i : Nat) ti) ?_ ?_
    · walk_at "lk"
    refine part_some ?_
    with_reducible refine con_int hS9 fun t10 s10 hS10 => ?_
    refine part_some ?_
    with_reducible refine con_int hS10 fun t11 s11 hS11 => ?_
    refine ⟨a, vs, some (((i : Nat) : Int), ti), some ((60 : Int), t10), some ((4 : Int), t11), rfl, rfl, rfl, rfl, by simp, c, G, Z', _, _, hS11, ⟨o, hS11.z _ _ ha, hoc, on, hod⟩, by rw [sizeLine_eq]; omega, fun D3 s12 hD3 hS12 => ?_⟩
    have hsub : ∀ v ∈ (slicePick vs.toArray (Option.map (·.1) (some (((i : Nat) : Int), ti))) (Option.map (·.1) (some ((60 : Int), t10))) (Option.map (·.1) (some ((4 : Int), t11)))).toList, ∃ i t, v = .int i t := fun v hv => hvi v (slicePick_mem hv)
    have hlen := slicePick_size_le vs.toArray (Option.map (·.1) (some (((i : Nat) : Int), ti))) (Option.map (·.1) (some ((60 : Int), t10))) (Option.map (·.1) (some ((4 : Int), t11)))
    generalize hus : (slicePick vs.toArray (Option.map (·.1) (some (((i : Nat) : Int), ti))) (Option.map (·.1) (some ((60 : Int), t10))) (Option.map (·.1) (some ((4 : Int), t11)))) = us at hS12 hsub hlen
    obtain ⟨us⟩ := us
    rw [List.size_toArray] at hlen
    have hul : us.length ≤ 63 := Nat.le_trans hlen (by rw [List.size_toArray]; exact hvl)
    refine iter_list hS12 (vs := us) (hS12.own' (.head _)) fun J jo s13 hDJ hJJ hJc hS13 => ?_
    refine ⟨c, G, Z', _, _, _, J, jo, kList D3 us, fun j zs Z'' => ∃ xs, NatsV zs xs ∧ xs.length = j ∧ Z'' = Z', rfl, itr_list hr.handled J D3 hDJ us, hJJ, (by show us.length ≤ 10000; omega), hS13, (fun a ha => by rw [hT] at ha; cases ha), ⟨[], .nil, rfl, rfl⟩, (fun Z2 ns2 a2 b2 s2 hS2 _ => isList_of (hS2.own' (.tail _ (.tail _ (.head _))))), ?_, ?_⟩
    · intro C2 D4 j v zs Z2 m2 k2 jo2 s14 E2 hj hPj hJj hIj hlej hS14
      obtain ⟨xs2, hxs2, hxl2, rfl⟩ := hIj
      have hPj : us[j]? = some v := hPj
      obtain ⟨x, tx, rfl⟩ := hsub v (List.mem_of_getElem? hPj)
      refine wpAny_pure ?_
      refine wpAny_assign_Name (st hS14 fun s15 hS15 => ?_)
      refine wpAny_pure ?_
      rw [if_pos rfl]
      refine absQ fun Q6 hQ6 => ?_
      with_reducible refine wpAny_BinOp ?_
      with_reducible refine ld hS15 (v := .int x tx) ?_ ?_
      · walk_at "lk"
      with_reducible refine con_int hS15 fun t16 s16 hS16 => ?_
      refine mod_int (by decide) ?_
      obtain ⟨q, hq, hqb⟩ := fmod_bound x
      rw [hq]
      refine hQ6 _ _ ⟨Z2, _, hlej, hS16.toks (s16.toks + 1), xs2 ++ [q], hxs2.append (.cons q _ .nil), by rw [List.length_append, hxl2]; rfl, rfl⟩
    · intro D5 zs Z2 kz s17 hD5 hI2 hle2 hS17
      obtain ⟨xs2, hxs2, hxl2, rfl⟩ := hI2
      refine sum_nats hr.handled hS17 (hS17.own' (.head _)) hxs2 fun t18 s18 hS18 => ?_
      refine add_int ?_
      rw [show ((st0 : Nat) : Int) + ((xs2.sum : Nat) : Int) = ((st0 + xs2.sum : Nat) : Int) by omega]
      have hS19 := hS18.toks (s18.toks + 1)
      with_reducible refine con_int hS19 fun t20 s20 hS20 => ?_
      refine mod_int (by decide) ?_
      rw [show (1000000 : Int) = ((1000000 : Nat) : Int) from rfl, fmod_nat]
      refine hQ5 _ _ ⟨Z2, _, hle, (hS20.toks (s20.toks + 1)).sub (.refl _) (.cons _ (.cons _ (.refl _))), xs ++ [(st0 + xs2.sum) % 1000000], hxs.append (.cons _ _ .nil), by rw [List.length_append, hxl]; rfl, ?_, rfl⟩
      intro x hx
      rcases List.mem_append.mp hx with hx | hx
      · exact hxb x hx
      · rw [List.mem_singleton.mp hx]; exact Nat.mod_lt _ (by decide)
  · intro D3 ys Z' kn s8 hD3 hI hle hS8
    obtain ⟨xs, hxs, hxl, hxb, rfl⟩ := hI
    exact kk D3 ys xs kn s8 hxl hxb hxs (hS8.sub (.refl _) (.cons_cons _ (.cons _ (.refl _))))
end
/-! ### a list is unpacked -/
section
variable {prog : Program} {w : World} {A : Around} {E : Value → Shared → Prop} {s : Shared}
theorem draw_list {it t : Addr} {items : Array Value} (hne : t ≠ it) : ∀ (n i : Nat) (s : Shared) (Q : List Value → Shared → Prop), s.heap.IsListIter it t i → s.heap.IsList t items → i + n ≤ items.size →
    (∀ h', h'.IsListIter it t (i + n) → Heap.SameBut it s.heap h' → Q ((items.toList.drop i).take n) { s with heap := h' }) → wpAny (model prog w) A (draw (.ref it) n) Q E s
  | 0, i, s, Q, hit, _, _, hQ => by
    show wpAny _ _ (pure []) Q E s
    exact wpAny_pure (by simpa using hQ s.heap hit (Heap.SameBut.refl ..))
  | n + 1, i, s, Q, hit, ht, hle, hQ => by
    have hlt : i < items.size := by omega
    show wpAny _ _ (pyNext (.ref it) >>= _) Q E s
    refine wpAny_bind (wpAny_pyNext_list_item hit ht (x := items[i]) (by simp [hlt]) fun h₁ hit₁ hs₁ => ?_)
    obtain ⟨o, ho, hr⟩ := ht
    refine wpAny_bind (wpAny_holding (draw_list hne n (i + 1) _ _ hit₁ ⟨o, hs₁.extBut t o hne ho, hr⟩ (by omega) fun h₂ hit₂ hs₂ => wpAny_pure ?_))
    have hd : items.toList.drop i = items[i] :: items.toList.drop (i + 1) := by simp [List.drop_eq_getElem_cons, hlt]
    have := hQ h₂ (by rw [show i + (n + 1) = i + 1 + n by omega]; exact hit₂) (hs₁.trans hs₂)
    rw [hd, List.take_succ_cons] at this
    exact this
theorem unpackItems_list {t : Addr} {items : Array Value} {n : Nat} {Q : List Value → Shared → Prop} (hh : A.handled = none) (hn : n = items.size) (ht : s.heap.IsList t items)
    (hQ : ∀ h', Heap.ExtBut s.heap.objs.size s.heap h' → Q items.toList { s with heap := h' }) : wpAny (model prog w) A (unpackItems (.ref t) n none) Q E s := by
  subst hn
  have hlt : t ≠ s.heap.objs.size := by obtain ⟨o, ho, _⟩ := ht; exact Nat.ne_of_lt (Heap.lt_size ho)
  have ht' := ht
  unfold unpackItems
  refine wpAny_bind ?_
  · unfold notIterableAtAll
    refine wpAny_bind (wpAny_specialOf ht.typeIs slot_list_iter.lookup ?_)
    refine wpAny_pure ?_
    simp only [Bool.false_eq_true, if_false]
    refine wpAny_bind (wpAny_holding (wpAny_pyIter_list ht ?_))
    refine wpAny_bind (wpAny_holding (draw_list hlt items.size 0 _ _ ⟨_, Heap.get?_push_size _ rfl, rfl, rfl⟩ (ht.push _) (by omega) fun h₁ hit₁ hs₁ => ?_))
    have hall : List.take items.size (List.drop 0 items.toList) = items.toList := by
      rw [List.drop_zero]; exact List.take_of_length_le (by simp)
    rw [hall]
    rw [if_neg (by simp)]
    have ht₁ : h₁.IsList t items := by
      obtain ⟨o, ho, hr⟩ := ht'.push { cls := .type "list_iterator", data := .fields #[.ref t, .int 0 0] }
      exact ⟨o, hs₁.extBut t o hlt ho, hr⟩
    refine wpAny_bind (wpAny_holding (wpAny_pyNext_list_end hh hit₁ ht₁ (by simp) fun h₂ he₂ => ?_))
    simp only [Option.isSome_none, Bool.false_eq_true, if_false]
    refine wpAny_pure (hQ h₂ fun b o hb e => he₂ b o hb (hs₁.extBut b o hb (Heap.get?_push_of_some _ e)))
end
section
variable {w : World} {c : Ctx0} {G : Array GenState} {Z : Zone} {r : List (Addr × (Str → Option Value))} {l : List (Addr × Obj)} {s : Shared} {A : Around} {E : Value → Shared → Prop}
/-- x, y, z = a list -/
theorem assign_three {env : Env} {m : Str → Option Value} {pos px py pz : Pos} {x y z : Str} {k n : Nat} {T : Addr} {u v t : Value} {Q : Unit → Shared → Prop} (hh : A.handled = none) (h : S w c G Z ((env.locals, m) :: r) l s) (hT : s.heap.get? T = some (W.listOf #[u, v, t] n))
    (hq : ∀ s', S w c G Z ((env.locals, fun a => if a = z then some t else (fun a => if a = y then some v else (fun a => if a = x then some u else m a) a) a) :: r) l s' → Q () s')
    (hlx : env.kindOf x = some .local := by kernel_rfl) (hly : env.kindOf y = some .local := by kernel_rfl) (hlz : env.kindOf z = some .local := by kernel_rfl) (hp : (env.scope.kind == .class || (env.scope.kind == .module && env.locals != env.globals)) = false := by kernel_rfl) :
    wpAny (model PG w) A (assign (.Tuple [.Name x px, .Name y py, .Name z pz] k pos) env (.ref T)) Q E s := by
  rw [arm_assign_Tuple]
  refine wpAny_bind (wpAny_standAt ?_)
  unfold unpack
  refine wpAny_bind (wpAny_holding (unpackItems_list hh rfl (isList_of hT) fun h' he => ?_))
  have h1 : S w c G Z ((env.locals, m) :: r) l { s with heap := h' } := h.heapK fun b o e => he b o (Nat.ne_of_lt (Heap.lt_size e)) e
  show wpAny (model PG w) A (do holding [v, t] (assign (.Name x px) env u); assignInOrder [assign (.Name y py) env, assign (.Name z pz) env] [v, t]) Q E _
  refine wpAny_bind (wpAny_holding (wpAny_assign_Name (st h1 (fun s2 h2 => ?_) hlx hp)))
  show wpAny (model PG w) A (do holding [t] (assign (.Name y py) env v); assignInOrder [assign (.Name z pz) env] [t]) Q E _
  refine wpAny_bind (wpAny_holding (wpAny_assign_Name (st h2 (fun s3 h3 => ?_) hly hp)))
  show wpAny (model PG w) A (do holding [] (assign (.Name z pz) env t); assignInOrder [] []) Q E _
  refine wpAny_bind (wpAny_holding (wpAny_assign_Name (st h3 (fun s4 h4 => ?_) hlz hp)))
  exact wpAny_pure (hq _ h4)
/-- x, y = a list -/
theorem assign_two_list {env : Env} {m : Str → Option Value} {pos px py : Pos} {x y : Str} {k n : Nat} {T : Addr} {u v : Value} {Q : Unit → Shared → Prop} (hh : A.handled = none) (h : S w c G Z ((env.locals, m) :: r) l s) (hT : s.heap.get? T = some (W.listOf #[u, v] n))
    (hq : ∀ s', S w c G Z ((env.locals, fun a => if a = y then some v else (fun a => if a = x then some u else m a) a) :: r) l s' → Q () s')
    (hlx : env.kindOf x = some .local := by kernel_rfl) (hly : env.kindOf y = some .local := by kernel_rfl) (hp : (env.scope.kind == .class || (env.scope.kind == .module && env.locals != env.globals)) = false := by kernel_rfl) :
    wpAny (model PG w) A (assign (.Tuple [.Name x px, .Name y py] k pos) env (.ref T)) Q E s := by
  rw [arm_assign_Tuple]
  refine wpAny_bind (wpAny_standAt ?_)
  unfold unpack
  refine wpAny_bind (wpAny_holding (unpackItems_list hh rfl (isList_of hT) fun h' he => ?_))
  have h1 : S w c G Z ((env.locals, m) :: r) l { s with heap := h' } := h.heapK fun b o e => he b o (Nat.ne_of_lt (Heap.lt_size e)) e
  show wpAny (model PG w) A (do holding [v] (assign (.Name x px) env u); assignInOrder [assign (.Name y py) env] [v]) Q E _
  refine wpAny_bind (wpAny_holding (wpAny_assign_Name (st h1 (fun s2 h2 => ?_) hlx hp)))
  show wpAny (model PG w) A (do holding [] (assign (.Name y py) env v); assignInOrder [] []) Q E _
  refine wpAny_bind (wpAny_holding (wpAny_assign_Name (st h2 (fun s3 h3 => ?_) hly hp)))
  exact wpAny_pure (hq _ h3)
end
section
variable {w : World} {c : Ctx0} {G : Array GenState} {Z : Zone} {ns : List (Addr × (Str → Option Value))} {l : List (Addr × Obj)} {s : Shared} {A : Around} {E : Value → Shared → Prop}
/-- tree, text, bare = _law_drawn(..) -/
theorem la_drawn {L D : Addr} {m : Str → Option Value} {ys : List Value} {xs : List Nat} {k : Nat} {Q : Flow → Shared → Prop} {st' : Stmt} (hst : st' = laAt w.params 2) (hr : Rm A 20) (hT : c.T = [])
    (hS : S w c G Z (((laEnv w L).locals, m) :: ns) ((D, W.listOf ys.toArray k) :: l) s) (hm : m (Str.ofString "sums") = some (.ref D)) (hys : NatsV ys xs) (hxl : xs.length = 4)
    (kk : ∀ (many ltr msk : Nat) (v : Value) (d : Dt) (t u : Tok) (s' : Shared) (Z' : Zone), Z.le Z' → 4 ≤ many → many ≤ 6 → TreeAt Z' v d.fm → d.leaves = leavesOf many ltr msk →
      S w c G Z' (((laEnv w L).locals, fun a => if a = Str.ofString "bare" then some (.str (mkS (d.str showL)) u) else (fun a => if a = Str.ofString "text" then some (.str (mkS (d.str hideL)) t) else (fun a => if a = Str.ofString "tree" then some v else m a) a) a) :: ns) ((D, W.listOf ys.toArray k) :: l) s' → Q .next s') :
    wpAny (model PG w) A (exec st' (laEnv w L)) Q E s := by
  subst hst
  refine Assign_Tuple ?_ (by kernel_rfl) (by kernel_rfl)
  with_reducible refine callF (f := 222) (by kernel_rfl) ?_
  with_reducible refine is_ldg hS.toZ0 (by kernel_rfl) ?_
  with_reducible refine args_cons ?_
  with_reducible refine wpAny_BinOp ?_
  with_reducible refine con_int hS fun t1 s1 hS1 => ?_
  with_reducible refine wpAny_BinOp ?_
  with_reducible refine Subscript_ ?_
  with_reducible refine ld hS1 hm ?_
  with_reducible refine con_int hS1 fun t2 s2 hS2 => ?_
  obtain ⟨u0, h0⟩ := NatsV.get hys 0 (by omega)
  obtain ⟨u1, h1⟩ := NatsV.get hys 1 (by omega)
  obtain ⟨u2, h2⟩ := NatsV.get hys 2 (by omega)
  obtain ⟨u3, h3⟩ := NatsV.get hys 3 (by omega)
  refine item_at (v := .int (xs.getD 0 0 : Nat) u0) (hS2.own' (.head _)) (by decide) (by decide) (by rw [List.getElem?_toArray]; exact h0) ?_
  with_reducible refine con_int hS2 fun t3 s3 hS3 => ?_
  refine mod_int (by decide) ?_
  rw [show (3 : Int) = ((3 : Nat) : Int) from rfl, fmod_nat]
  refine add_int ?_
  rw [show (4 : Int) + ((xs.getD 0 0 % 3 : Nat) : Int) = ((4 + xs.getD 0 0 % 3 : Nat) : Int) by omega]
  have hS4 := (hS3.toks (s3.toks + 1)).toks (s3.toks + 1 + 1)
  with_reducible refine args_cons ?_
  with_reducible refine Subscript_ ?_
  with_reducible refine ld hS4 hm ?_
  with_reducible refine con_int hS4 fun t5 s5 hS5 => ?_
  refine item_at (v := .int (xs.getD 1 0 : Nat) u1) (hS5.own' (.head _)) (by decide) (by decide) (by rw [List.getElem?_toArray]; exact h1) ?_
  with_reducible refine args_cons ?_
  with_reducible refine Subscript_ ?_
  with_reducible refine ld hS5 hm ?_
  with_reducible refine con_int hS5 fun t6 s6 hS6 => ?_
  refine item_at (v := .int (xs.getD 2 0 : Nat) u2) (hS6.own' (.head _)) (by decide) (by decide) (by rw [List.getElem?_toArray]; exact h2) ?_
  with_reducible refine args_one ?_
  with_reducible refine Subscript_ ?_
  with_reducible refine ld hS6 hm ?_
  with_reducible refine con_int hS6 fun t7 s7 hS7 => ?_
  refine item_at (v := .int (xs.getD 3 0 : Nat) u3) (hS7.own' (.head _)) (by decide) (by decide) (by rw [List.getElem?_toArray]; exact h3) ?_
  have hmod := Nat.mod_lt (xs.getD 0 0) (show 0 < 3 by decide)
  refine ⟨hS7.kin, ?_⟩
  refine drawn_ok (many := 4 + xs.getD 0 0 % 3) (hr.le (by omega)) hS7.toZ0 (by omega) (by omega) fun b v d t u n s8 Z8 hz8 hb ht hdl => ?_
  have hS8 := hS7.back hz8 (fun b hb => by rw [hT] at hb; cases hb)
  refine assign_three hr.handled hS8 (T := b) (n := n) (hS8.z _ _ hb) fun s9 hS9 => ?_
  exact kk (4 + xs.getD 0 0 % 3) _ _ v d t u s9 Z8 hz8.zle (by omega) (by omega) ht hdl hS9
/-- left = _strip_quoted_realnames(text) -/
theorem la_left {L : Addr} {m : Str → Option Value} {d : Dt} {t : Tok} {Q : Flow → Shared → Prop} {st' : Stmt} (hst : st' = laAt w.params 3) (hr : Rm A 20) (hT : c.T = [])
    (hS : S w c G Z (((laEnv w L).locals, m) :: ns) l s) (hm : m (Str.ofString "text") = some (.str (mkS (d.str hideL)) t)) (hd : DOk d) (hl : d.leaves.length ≤ 6)
    (kk : ∀ (t : Tok) (s' : Shared) (Z' : Zone) (G' : Array GenState), Z.le Z' → S w c G' Z' (((laEnv w L).locals, fun a => if a = Str.ofString "left" then some (.str (mkS (d.str showL)) t) else m a) :: ns) l s' → Q .next s') :
    wpAny (model PG w) A (exec st' (laEnv w L)) Q E s := by
  subst hst
  refine wpAny_Assign_Name ?_
  with_reducible refine callF (f := 200) (by kernel_rfl) ?_
  with_reducible refine is_ldg hS.toZ0 (by kernel_rfl) ?_
  with_reducible refine args_one ?_
  with_reducible refine ld hS hm ?_
  have hlen := Dt.str_len hideL_len d
  refine ⟨hS.kin, ?_⟩
  refine strip_ok hr (mkS_all _ (List.all_eq_true.mpr fun c hc => decide_eq_true (asc_h hd c hc))) (by rw [mkS_len]; omega) hS.toZ0 fun t2 s2 Z2 G2 hz2 => ?_
  have hS2 := hS.back hz2 (fun b hb => by rw [hT] at hb; cases hb)
  rw [mkS_list, strip_d hd]
  exact st hS2 fun s3 hS3 => kk t2 s3 Z2 G2 hz2.zle hS3
end
/-! ### the first place of a text in a text -/
theorem occ_full (s sub : Str) (hi : Nat) : ∀ (l : List Nat) (st : Array Nat × Nat), st.fst.size = 1 → (forIn l st (occBody s sub hi 1)).run.fst = st.fst
  | [], st, h => rfl
  | a :: l, st, h => by
    rw [List.forIn_cons]
    unfold occBody
    rw [if_neg (fun q => by have := q.1.1.1; omega)]
    exact occ_full s sub hi l _ h
theorem occ_first (s sub : Str) (hi p : Nat) (l2 : List Nat) : ∀ (l1 : List Nat) (free : Nat), (∀ i ∈ l1 ++ p :: l2, free ≤ i) → (∀ i ∈ l1, ¬ (i + sub.length ≤ hi ∧ subAt s sub i = true)) → (p + sub.length ≤ hi ∧ subAt s sub p = true) →
    (forIn (l1 ++ p :: l2) ((#[] : Array Nat), free) (occBody s sub hi 1)).run.fst = #[p]
  | [], free, hf, _, hp => by
    rw [List.nil_append, List.forIn_cons]
    have hfp := hf p (.head _)
    have e : occBody s sub hi 1 p ((#[] : Array Nat), free) = pure (ForInStep.yield (#[p], p + sub.length)) := by
      unfold occBody
      rw [if_pos ⟨⟨⟨by simp, hfp⟩, hp.1⟩, hp.2⟩]
      rfl
    rw [e]
    exact occ_full s sub hi l2 _ rfl
  | a :: l1, free, hf, hn, hp => by
    rw [List.cons_append, List.forIn_cons]
    have e : occBody s sub hi 1 a ((#[] : Array Nat), free) = pure (ForInStep.yield (#[], free)) := by
      unfold occBody
      rw [if_neg (fun q => hn a (.head _) ⟨q.1.2, q.2⟩)]
    rw [e]
    exact occ_first s sub hi p l2 l1 free (fun i hi => hf i (.tail _ hi)) (fun i hi => hn i (.tail _ hi)) hp
theorem find_at {x y : Str} {p : Nat} (hp : p + y.length ≤ x.length ∧ subAt x y p = true) (hn : ∀ i < p, ¬ (i + y.length ≤ x.length ∧ subAt x y i = true)) : Txt.find x y = (p : Int) := by
  unfold Txt.find
  rw [occ_eq]
  have e : List.range' 0 (x.length + 1 - 0) = List.range' 0 p ++ p :: List.range' (p + 1) (x.length - p) := by
    have h1 := List.range'_append (s := 0) (m := p) (n := x.length + 1 - p) (step := 1)
    rw [Nat.one_mul, Nat.zero_add] at h1
    rw [show x.length + 1 - 0 = p + (x.length + 1 - p) by omega, ← h1, show x.length + 1 - p = (x.length - p) + 1 by omega, List.range'_succ]
  rw [e, occ_first x y x.length p _ _ 0 (fun i _ => Nat.zero_le _) (fun i hi => hn i (by simpa using (List.mem_range'_1.mp hi).2)) hp]
theorem find_arrow {pre post : List Nat} (hno : 62 ∉ pre) : Txt.find (mkS (pre ++ [45, 62] ++ post)) (Str.ofString "->") = (pre.length : Int) := by
  rw [show Str.ofString "->" = mkS [45, 62] from by decide +kernel]
  refine find_at ⟨?_, ?_⟩ fun i hi q => ?_
  · rw [mkS_len, mkS_len]; simp
  · rw [subAt_eq, mkS_list, mkS_len, mkS_list, List.append_assoc, List.drop_left]
    rfl
  · have q := q.2
    rw [subAt_eq, mkS_list, mkS_len, mkS_list, beq_iff_eq] at q
    have h1 : ((pre ++ [45, 62] ++ post).drop i)[1]? = some 62 := by
      have := congrArg (fun l => l[1]?) q
      rw [List.getElem?_take] at this
      simpa using this
    rw [List.getElem?_drop, List.append_assoc] at h1
    rcases Nat.lt_or_ge (i + 1) pre.length with hlt | hge
    · rw [List.getElem?_append_left hlt] at h1
      exact hno (List.mem_of_getElem? h1)
    · have e : i + 1 = pre.length := by omega
      rw [e, List.getElem?_append_right (Nat.le_refl _), Nat.sub_self] at h1
      injection h1 with h1
      cases h1
section
variable {w : World} {c : Ctx0} {G : Array GenState} {Z : Zone} {ns : List (Addr × (Str → Option Value))} {l : List (Addr × Obj)} {s : Shared} {A : Around} {E : Value → Shared → Prop}
/-- read, place = (_law_parsed(left), left.find('->')) -/
theorem la_read {L : Addr} {m : Str → Option Value} {d lf : Dt} {pre post : List Nat} {t : Tok} {fs : List Env} {Q : Flow → Shared → Prop} {st' : Stmt} (hst : st' = laAt w.params 4) (hr : Rm A 450) (hT : c.T = []) (hfs : A.frames = some fs) (hfn : FrOk fs (((laEnv w L).locals, m) :: ns))
    (hS : S w c G Z (((laEnv w L).locals, m) :: ns) l s) (hm : m (Str.ofString "left") = some (.str (mkS (d.str showL)) t)) (hd : DOk d) (hl : d.leaves.length ≤ 6) (ht : Turn d lf pre post)
    (kk : ∀ (v : Value) (t : Tok) (s' : Shared) (Z' : Zone) (G' : Array GenState), Z.le Z' → TreeAt Z' v d.fm →
      S w c G' Z' (((laEnv w L).locals, fun a => if a = Str.ofString "read" then some v else (fun a => if a = Str.ofString "place" then some (.int (pre.length : Nat) t) else m a) a) :: ns) l s' → Q .next s') :
    wpAny (model PG w) A (exec st' (laEnv w L)) Q E s := by
  subst hst
  have hh := ht_leaves d
  refine Assign_Tuple_swapped (names := [Str.ofString "read", Str.ofString "place"]) ?_ (by kernel_rfl) (by kernel_rfl)
  with_reducible refine mk_tuple ?_
  with_reducible refine args_cons ?_
  with_reducible refine callF (f := 227) (by kernel_rfl) ?_
  with_reducible refine is_ldg hS.toZ0 (by kernel_rfl) ?_
  with_reducible refine args_one ?_
  with_reducible refine ld hS hm ?_
  refine ⟨hS.kin, ?_⟩
  refine parsed_ok (parse_d (w := w) d 6 hd hl (by omega)) _ _ _ _ _ _ _ _ _ fs t (hr.le (by omega)) hT hfs hfn hS fun v Z1 G1 s1 hle1 hv hS1 => ?_
  with_reducible refine args_one ?_
  with_reducible refine callS (o := _) F.slot_str_find F.type_str_find ?_
  with_reducible refine ld hS1 hm ?_
  refine ⟨_, _, rfl, ?_⟩
  with_reducible refine con_str hS1 fun t2 s2 hS2 => ?_
  refine SC.find ?_
  rw [ht.eq, find_arrow ht.no]
  have hS3 := hS2.toks (s2.toks + 1)
  refine ⟨_, _, _, _, _, hS3, (by show 2 ≤ sizeLine; decide), fun T s4 hTc hS4 => ?_⟩
  refine swap_two hr.handled hS4 (hS4.own' (.head _)) fun s5 hS5 => ?_
  exact kk v _ s5 Z1 G1 hle1 hv (hS5.sub (.refl _) (.cons _ (.refl _)))
/-- turned = str(_check_parenthesis(left[place + 2:] + left[:place])) -/
theorem la_turned {L : Addr} {m : Str → Option Value} {d lf : Dt} {pre post : List Nat} {t tp : Tok} {Q : Flow → Shared → Prop} {st' : Stmt} (hst : st' = laAt w.params 5) (hr : Rm A 40) (hT : c.T = [])
    (hS : S w c G Z (((laEnv w L).locals, m) :: ns) l s) (hm : m (Str.ofString "left") = some (.str (mkS (d.str showL)) t)) (hmp : m (Str.ofString "place") = some (.int (pre.length : Nat) tp)) (hd : DOk d) (hl : d.leaves.length ≤ 6) (ht : Turn d lf pre post)
    (kk : ∀ (t : Tok) (s' : Shared) (Z' : Zone) (G' : Array GenState), Z.le Z' →
      S w c G' Z' (((laEnv w L).locals, fun a => if a = Str.ofString "turned" then some (.str (boolS (!lf.isNode)) t) else m a) :: ns) l s' → Q .next s') :
    wpAny (model PG w) A (exec st' (laEnv w L)) Q E s := by
  subst hst
  have hlen := Dt.str_len showL_len d
  have hasc := asc_d hd
  have hle : (d.str showL).length = pre.length + 2 + post.length := by rw [ht.eq]; simp; omega
  refine wpAny_Assign_Name ?_
  with_reducible refine callT (T := "str") ?_
  with_reducible refine is_ldb hS.toZ0 (by kernel_rfl) (by kernel_rfl) ?_
  with_reducible refine args_one ?_
  with_reducible refine callF (f := 207) (by kernel_rfl) ?_
  with_reducible refine is_ldg hS.toZ0 (by kernel_rfl) ?_
  with_reducible refine args_one ?_
  with_reducible refine wpAny_BinOp ?_
  with_reducible refine sl_strE ?_
  with_reducible refine ld hS hm ?_
  refine part_some ?_
  with_reducible refine wpAny_BinOp ?_
  with_reducible refine ld hS hmp ?_
  with_reducible refine con_int hS fun t3 s3 hS3 => ?_
  refine add_int ?_
  refine part_none ?_
  rw [show ((pre.length : Nat) : Int) + 2 = ((pre.length + 2 : Nat) : Int) by omega]
  refine ⟨_, _, some (((pre.length + 2 : Nat) : Int), s3.toks), none, rfl, rfl, rfl, c, G, Z, _, _, hS3.toks _, by rw [mkS_len, sizeLine_eq]; omega, fun t9 s9 hS9 => ?_⟩
  have esl : Txt.slice (mkS (d.str showL)) (Option.map (·.1) (some (((pre.length + 2 : Nat) : Int), s3.toks))) (Option.map (·.1) (none : Option (Int × Tok))) = mkS post := by
    show Txt.slice (mkS (d.str showL)) (some ((pre.length + 2 : Nat) : Int)) none = _
    rw [slice_from, mkS_list, ht.eq, show pre.length + 2 = (pre ++ [45, 62]).length by simp, List.drop_left]; rfl
  rw [esl]
  with_reducible refine sl_strE ?_
  with_reducible refine ld hS9 hm ?_
  refine part_none (part_some ?_)
  with_reducible refine ld hS9 hmp ?_
  refine ⟨_, _, none, some (((pre.length : Nat) : Int), tp), rfl, rfl, rfl, c, G, Z, _, _, hS9, by rw [mkS_len, sizeLine_eq]; omega, fun t10 s10 hS10 => ?_⟩
  have esl2 : Txt.slice (mkS (d.str showL)) (Option.map (·.1) (none : Option (Int × Tok))) (Option.map (·.1) (some (((pre.length : Nat) : Int), tp))) = mkS pre := by
    show Txt.slice (mkS (d.str showL)) none (some ((pre.length : Nat) : Int)) = _
    rw [slice_to, mkS_list, ht.eq, List.append_assoc, List.take_left]; rfl
  rw [esl2]
  refine add_str' hS10 (by rw [mkS_len, mkS_len, sizeLine_eq]; omega) fun t11 s11 hS11 => ?_
  rw [mkS_append]
  refine ⟨hS11.kin, ?_⟩
  have hall : (post ++ pre).all (· < 128) = true := List.all_eq_true.mpr fun c hc => decide_eq_true (hasc c (by
    rw [ht.eq]
    rcases List.mem_append.mp hc with q | q
    · exact List.mem_append_right _ q
    · exact List.mem_append_left _ (List.mem_append_left _ q)))
  have hlt : (post ++ pre).length ≤ 1000 := by rw [List.length_append]; omega
  obtain ⟨hst, hck⟩ := ht.check
  refine check_ok (hr.le (by omega)) (mkS_all _ hall) (by rw [mkS_len]; exact hlt) hS11.toZ0 (by rw [mkS_list, hst]; exact hall) (by rw [mkS_list, hst]; exact hlt) fun s12 Z12 G12 hZ12 => ?_
  rw [mkS_list, hck]
  have hS12 := hS11.back hZ12 (fun a ha => by rw [hT] at ha; cases ha)
  refine P.str_of_bool ?_
  exact st (hS12.toks (s12.toks + 1)) fun s13 hS13 => kk _ s13 Z12 G12 hZ12.zle hS13
end
/-! ### the left sides of a formula, all of them -/
noncomputable def subsF : Fm → List Fm
  | .leaf _ => []
  | .node l r => l :: (subsF l ++ subsF r)
theorem subsF_len : ∀ t : Fm, (subsF t).length + 1 = t.size
  | .leaf _ => rfl
  | .node l r => by
    have h1 := subsF_len l
    have h2 := subsF_len r
    show (l :: (subsF l ++ subsF r)).length + 1 = l.size + r.size
    rw [List.length_cons, List.length_append]; omega
theorem ht_size : ∀ t : Fm, t.ht + 1 = t.size
  | .leaf _ => rfl
  | .node l r => by
    have h1 := ht_size l
    have h2 := ht_size r
    show l.ht + r.ht + 1 + 1 = l.size + r.size
    omega
theorem depth_size : ∀ t : Fm, t.depth + 1 ≤ t.size
  | .leaf _ => Nat.le_refl 1
  | .node l r => by
    have h1 := ht_size l
    have h2 := depth_size r
    show r.depth + 1 + 1 ≤ l.size + r.size
    omega
theorem lefts_subs : ∀ t : Fm, ∀ g ∈ t.lefts, g ∈ subsF t
  | .leaf _, g, h => nomatch h
  | .node l r, g, h => by
    rcases List.mem_cons.mp h with rfl | h
    · exact .head _
    · exact .tail _ (List.mem_append_right _ (lefts_subs r g h))
theorem subs_facts : ∀ t : Fm, NamesOk t → ∀ f ∈ subsF t, NamesOk f ∧ f.size < t.size ∧ ∀ g ∈ f.lefts, g ∈ subsF t
  | .leaf _, _, f, h => nomatch h
  | .node l r, hn, f, h => by
    cases hn with
    | node h1 h2 =>
      have s1 := ht_size l
      have s2 := ht_size r
      have es : (Fm.node l r).size = l.size + r.size := rfl
      rcases List.mem_cons.mp h with rfl | h
      · exact ⟨h1, by omega, fun g hg => .tail _ (List.mem_append_left _ (lefts_subs _ g hg))⟩
      · rcases List.mem_append.mp h with h | h
        · obtain ⟨a, b, c⟩ := subs_facts l h1 f h
          exact ⟨a, by omega, fun g hg => .tail _ (List.mem_append_left _ (c g hg))⟩
        · obtain ⟨a, b, c⟩ := subs_facts r h2 f h
          exact ⟨a, by omega, fun g hg => .tail _ (List.mem_append_right _ (c g hg))⟩
theorem uni_subs {t : Fm} (hn : NamesOk t) (h6 : t.size ≤ 6) : Uni (subsF t) where
  len := by have := subsF_len t; omega
  last f hf := (subs_facts t hn f hf).1.last
  dep f hf := by
    have h1 := (subs_facts t hn f hf).2.1
    have h2 := depth_size f
    have h3 := ht_size f
    exact ⟨by omega, by omega⟩
  sub f hf := (subs_facts t hn f hf).2.2
section
variable {w : World} {c : Ctx0} {G : Array GenState} {Z : Zone} {ns : List (Addr × (Str → Option Value))} {l : List (Addr × Obj)} {s : Shared} {A : Around} {E : Value → Shared → Prop}
theorem rcne_same {v v' : Value} {f1 f2 : Fm} (hz : Z.on s.heap) (h : TreeAt Z v (.node f1 f2)) (h' : TreeAt Z v' (.node f1 f2)) (hu : A.units + 1 + (Fm.node f1 f2).ht < cLine) : RcNeAt A s v v' false := by
  have ehs : (Fm.node f1 f2).ht = f1.ht + f2.ht + 1 := rfl
  cases h with
  | @node a v1 v2 n _ _ e t1 t2 =>
    cases h' with
    | @node b u1 u2 m _ _ e' t1' t2' =>
      have hin : A.in1.units = A.units + 1 := rfl
      have q1 := eq_trees hz t1 (A := A.in1) t1' (by omega)
      have q2 := eq_trees hz t2 (A := A.in1) t2' (by omega)
      rw [decide_eq_true rfl] at q1 q2
      have key := RcNeAt.lists (A := A) (e := fun _ => true) (isList_of (hz _ _ e)) (isList_of (hz _ _ e')) rfl (by omega) (fun j r1 r2 => by
        match j, r1 with
        | 0, _ => exact q1
        | 1, _ => exact q2)
      exact key
theorem isin_tree_str {v : Value} {d : Dt} {Q : Value → Shared → Prop} (h : S w c G Z ns l s) (ht : TreeAt Z v d.fm) (hq : ∀ s', S w c G Z ns l s' → Q (.bool (!d.isNode)) s') : wpAny (model PG w) A (call (.builtin "isinstance") [v, .type "str"]) Q E s := by
  cases d with
  | leaf k a b =>
    have ht : TreeAt Z v (.leaf (mkS (nameL a))) := ht
    cases ht with
    | leaf x t => exact IsiPair.str_str (hq _ h)
  | node d1 d2 =>
    have ht : TreeAt Z v (.node d1.fm d2.fm) := ht
    cases ht with
    | node e _ _ => exact IsiPair.list_str (h.z _ _ e) rfl (hq _ (h.toks _))
/-- if left != bare or read != tree or turned != str(isinstance(tree[0], str)): return False -/
theorem la_if {L : Addr} {m : Str → Option Value} {d1 d2 : Dt} {v v' : Value} {t u tt : Tok} {Q : Flow → Shared → Prop} {st' : Stmt} (hst : st' = laAt w.params 6) (hr : Rm A 40)
    (hS : S w c G Z (((laEnv w L).locals, m) :: ns) l s) (hm1 : m (Str.ofString "left") = some (.str (mkS ((Dt.node d1 d2).str showL)) t)) (hm2 : m (Str.ofString "bare") = some (.str (mkS ((Dt.node d1 d2).str showL)) u))
    (hm3 : m (Str.ofString "read") = some v) (hm4 : m (Str.ofString "tree") = some v') (hm5 : m (Str.ofString "turned") = some (.str (boolS (!d1.isNode)) tt)) (hv : TreeAt Z v (Dt.node d1 d2).fm) (hv' : TreeAt Z v' (Dt.node d1 d2).fm) (hsz : (Dt.node d1 d2).fm.ht ≤ 100)
    (kk : ∀ (s' : Shared), S w c G Z (((laEnv w L).locals, m) :: ns) l s' → Q .next s') :
    wpAny (model PG w) A (exec st' (laEnv w L)) Q E s := by
  subst hst
  refine wpAny_If ?_
  refine isTrue_or ?_
  with_reducible refine wpAny_isTrue_Compare1 ?_ (by kernel_rfl)
  with_reducible refine ld hS hm1 ?_
  with_reducible refine ld hS hm2 ?_
  refine ne_str (wpAny_truthy_bool ?_)
  rw [show (mkS ((Dt.node d1 d2).str showL) != mkS ((Dt.node d1 d2).str showL)) = false by simp, if_neg (by decide)]
  refine isTrue_or ?_
  with_reducible refine wpAny_isTrue_Compare1 ?_ (by kernel_rfl)
  with_reducible refine ld hS hm3 ?_
  with_reducible refine ld hS hm4 ?_
  have hne : RcNeAt A s v v' false := rcne_same hS.z (f1 := d1.fm) (f2 := d2.fm) hv hv' (by
    have hu := hr.units
    have e : (Fm.node d1.fm d2.fm).ht = (Dt.node d1 d2).fm.ht := rfl
    rw [e]; omega)
  refine hne PG w _ _ (wpAny_truthy_bool ?_)
  rw [if_neg (by decide)]
  refine isTrue_or ?_
  with_reducible refine wpAny_isTrue_Compare1 ?_ (by kernel_rfl)
  with_reducible refine ld hS hm5 ?_
  with_reducible refine callT (T := "str") ?_
  with_reducible refine is_ldb hS.toZ0 (by kernel_rfl) (by kernel_rfl) ?_
  with_reducible refine args_one ?_
  with_reducible refine callB (id := "isinstance") ?_
  with_reducible refine is_ldb hS.toZ0 (by kernel_rfl) (by kernel_rfl) ?_
  with_reducible refine args_cons ?_
  with_reducible refine Subscript_ ?_
  with_reducible refine ld hS hm4 ?_
  with_reducible refine con_int hS fun t6 s6 hS6 => ?_
  have hv'' : TreeAt Z v' (.node d1.fm d2.fm) := hv'
  cases hv'' with
  | @node a v1 v2 n _ _ e h1 h2 =>
    refine item_at (v := v1) (hS6.z _ _ e) (by decide) (by decide) rfl ?_
    with_reducible refine args_one ?_
    with_reducible refine ldb hS6.toZ0 (v := .type "str") (by kernel_rfl) (by kernel_rfl) ?_
    refine isin_tree_str hS6 h1 fun s7 hS7 => ?_
    refine P.str_of_bool ?_
    refine ne_str (wpAny_truthy_bool ?_)
    have hb : ∀ b : Bool, (boolS b != (if b then Str.ofString "True" else Str.ofString "False")) = false := by decide +kernel
    rw [hb, if_neg (by decide)]
    refine isTrue_or_nil ?_
    rw [if_neg (by decide)]
    exact wpAny_execs_nil (kk _ (hS7.toks _))
/-- table, odd = (Headers(), []) -/
theorem la_table {L : Addr} {m : Str → Option Value} {Q : Flow → Shared → Prop} {st' : Stmt} (hst : st' = laAt w.params 7) (hr : Rm A 50) (hT : c.T = [])
    (hS : S w c G Z (((laEnv w L).locals, m) :: ns) l s)
    (kk : ∀ (x dx hl O : Addr) (tk : Tok) (s' : Shared), S w c G Z (((laEnv w L).locals, fun a => if a = Str.ofString "table" then some (.ref x) else (fun a => if a = Str.ofString "odd" then some (.ref O) else m a) a) :: ns)
      ((O, W.listOf ([] : List Value).toArray 0) :: (hl, W.listOf ([] : List Value).toArray 0) :: (x, hdI dx) :: (dx, hdD w tk hl) :: l) s' → Q .next s') :
    wpAny (model PG w) A (exec st' (laEnv w L)) Q E s := by
  subst hst
  refine Assign_Tuple_swapped (names := [Str.ofString "table", Str.ofString "odd"]) ?_ (by kernel_rfl) (by kernel_rfl)
  with_reducible refine mk_tuple ?_
  with_reducible refine args_cons ?_
  with_reducible refine callF0 (f := 182) (by kernel_rfl) ?_
  with_reducible refine is_ldg hS.toZ0 (by kernel_rfl) ?_
  refine ⟨hS.kin, ?_⟩
  refine make0 (hr.le (by omega)) hS (fun a ha => by rw [hT] at ha; cases ha) fun x dx hl tk s1 _ _ _ hS1 => ?_
  with_reducible refine args_one ?_
  with_reducible refine mk_list ?_
  with_reducible refine args_nil ?_
  refine ⟨_, _, _, _, _, hS1, (by show 0 ≤ sizeLine; decide), fun O s2 hO hS2 => ?_⟩
  refine ⟨_, _, _, _, _, hS2, (by show 2 ≤ sizeLine; decide), fun T s3 hTc hS3 => ?_⟩
  refine swap_two hr.handled hS3 (hS3.own' (.head _)) fun s4 hS4 => ?_
  exact kk x dx hl O tk s4 (hS4.sub (.refl _) (.cons _ (.refl _)))
/-- told = _law_proved(read, table, [], [], odd) -/
theorem la_told {L x dx hl O : Addr} {tk : Tok} {m : Str → Option Value} {t : Fm} {v : Value} {Q : Flow → Shared → Prop} {st' : Stmt} (hst : st' = laAt w.params 8) (hr : Rm A 500) (hT : c.T = [])
    (hS : S w c G Z (((laEnv w L).locals, m) :: ns) ((O, W.listOf ([] : List Value).toArray 0) :: (hl, W.listOf ([] : List Value).toArray 0) :: (x, hdI dx) :: (dx, hdD w tk hl) :: l) s)
    (hm1 : m (Str.ofString "read") = some v) (hm2 : m (Str.ofString "table") = some (.ref x)) (hm3 : m (Str.ofString "odd") = some (.ref O)) (hv : TreeAt Z v t) (hn : NamesOk t) (h6 : t.size ≤ 6)
    (kk : ∀ (s' : Shared) (Z' : Zone), Z.le Z' → S w c G Z' (((laEnv w L).locals, fun a => if a = Str.ofString "told" then some (.bool (sr 19 t [] [])) else m a) :: ns)
      ((O, W.listOf ([] : List Value).toArray 0) :: (hl, W.listOf ([] : List Value).toArray 0) :: (x, hdI dx) :: (dx, hdD w tk hl) :: l) s' → Q .next s') :
    wpAny (model PG w) A (exec st' (laEnv w L)) Q E s := by
  subst hst
  refine wpAny_Assign_Name ?_
  with_reducible refine callF (f := 239) (by kernel_rfl) ?_
  with_reducible refine is_ldg hS.toZ0 (by kernel_rfl) ?_
  with_reducible refine args_cons ?_
  with_reducible refine ld hS hm1 ?_
  with_reducible refine args_cons ?_
  with_reducible refine ld hS hm2 ?_
  with_reducible refine args_cons ?_
  with_reducible refine mk_list ?_
  with_reducible refine args_nil ?_
  refine ⟨_, _, _, _, _, hS, (by show 0 ≤ sizeLine; decide), fun K s2 hK hS2 => ?_⟩
  with_reducible refine args_cons ?_
  with_reducible refine mk_list ?_
  with_reducible refine args_nil ?_
  refine ⟨_, _, _, _, _, hS2, (by show 0 ≤ sizeLine; decide), fun Wy s3 hW hS3 => ?_⟩
  have hzW := hS3.zo Wy (List.mem_append_right _ (.head _))
  have hS4 := hS3.freeze hW
  have hle := Zone.put_le (W.listOf ([] : List Value).toArray 0) hzW
  with_reducible refine args_one ?_
  with_reducible refine ld hS4 hm3 ?_
  refine ⟨hS4.kin, ?_⟩
  have hd := depth_size t
  have hch : Chain (subsF t) [] [] := ⟨fun p hp => (nomatch hp), .nil, fun f hf => (nomatch hf), .nil⟩
  refine proved_ok 19 _ _ _ _ _ _ _ _ _ K x dx hl Wy O tk [] [] [] 0 0 0 [] [] (subsF t) [] v t (hr.le (by omega)) hT (uni_subs hn h6) hS4 (.tail _ (.head _)) (.tail _ (.tail _ (.head _))) (.tail _ (.tail _ (.tail _ (.head _)))) Zone.put_self (hv.mono hle) (by omega) hn.last (lefts_subs t) .nil .nil
    (fun g hg => nomatch hg) (fun g hg => nomatch hg) .nil .nil hch (by decide) fun Z' s5 hle5 hk => ?_
  obtain ⟨kvs, kn, fs', hS5, _, _, _, _⟩ := hk
  refine st hS5 fun s6 hS6 => ?_
  exact kk s6 Z' (hle.trans hle5) (hS6.sub (.refl _) (.cons _ (.refl _)))
/-- head = _law_spread(tree)[-1].lower() -/
theorem la_head {L : Addr} {m : Str → Option Value} {t : Fm} {v : Value} {co : Option Value} {Q : Flow → Shared → Prop} {st' : Stmt} (hst : st' = laAt w.params 9) (hr : Rm A 10) (hT : c.T = [])
    (hS : S w c G Z (((laEnv w L).locals, m) :: ns) ((L + 3, cellO co) :: l) s) (hm1 : m (Str.ofString "tree") = some v) (hv : TreeAt Z v t) (hn : NamesOk t) (h6 : t.size ≤ 6)
    (kk : ∀ (th : Tok) (s' : Shared) (Z' : Zone), Z.le Z' → S w c G Z' (((laEnv w L).locals, m) :: ns) ((L + 3, cellO (some (.str (low t.last) th))) :: l) s' → Q .next s') :
    wpAny (model PG w) A (exec st' (laEnv w L)) Q E s := by
  subst hst
  have hd := depth_size t
  refine wpAny_Assign_Name ?_
  with_reducible refine callS0 F.slot_str_lower F.type_str_lower ?_
  with_reducible refine Subscript_ ?_
  with_reducible refine callF (f := 234) (by kernel_rfl) ?_
  with_reducible refine is_ldg hS.toZ0 (by kernel_rfl) ?_
  with_reducible refine args_one ?_
  with_reducible refine ld hS hm1 ?_
  refine ⟨hS.kin, ?_⟩
  refine spread_ok (hr.le (by omega)) hS.toZ0 hv (by omega) fun a vs n s6 Z' hZ6 ha hvs6 => ?_
  have hS6 := hS.back hZ6 (fun a ha => by rw [hT] at ha; cases ha)
  rw [t.spread_eq] at hvs6
  obtain ⟨vi, tl, rfl, _⟩ := hvs6.snoc_inv
  refine minus_one hS6 fun t7 s7 hS7 => ?_
  refine item_neg (hS7.z _ _ ha) ?_
  refine ⟨_, _, rfl, ?_⟩
  have hfit : tooLong (Txt.lower t.last).length = false := by
    have := (by decide +kernel : ∀ x ∈ names6, tooLong (Txt.lower x).length = false)
    exact this _ hn.last
  refine SC.lower hfit ?_
  refine stc (hS7.toks (s7.toks + 1)) (a := L + 3) .head fun s8 hS8 => ?_
  exact kk _ s8 Z' hZ6.zle hS8
end
theorem three_of {head : Str} (h : head ∈ lows) : ∃ one two, lows.filter (fun x => !(x == head)) = [one, two] ∧ Three head one two := by
  have h : head = Str.ofString "a" ∨ head = Str.ofString "ab" ∨ head = Str.ofString "b" := by
    rcases List.mem_cons.mp h with h | h
    · exact .inl h
    · rcases List.mem_cons.mp h with h | h
      · exact .inr (.inl h)
      · exact .inr (.inr (List.mem_singleton.mp h))
  rcases h with rfl | rfl | rfl
  · exact ⟨Str.ofString "ab", Str.ofString "b", by decide +kernel, .inl ⟨rfl, rfl, rfl⟩⟩
  · exact ⟨Str.ofString "a", Str.ofString "b", by decide +kernel, .inr (.inl ⟨rfl, rfl, rfl⟩)⟩
  · exact ⟨Str.ofString "a", Str.ofString "ab", by decide +kernel, .inr (.inr ⟨rfl, rfl, rfl⟩)⟩
theorem Three.ne {head one two : Str} (h : Three head one two) : head ≠ one ∧ head ≠ two ∧ one ≠ two ∧ ∀ x ∈ lows, x ∈ [head, one, two] := by
  rcases h with ⟨rfl, rfl, rfl⟩ | ⟨rfl, rfl, rfl⟩ | ⟨rfl, rfl, rfl⟩ <;> decide +kernel
theorem two_step {α : Type} {p : α → Bool} {es : List α} {i : Nat} {e : α} (h : es[i]? = some e) : (es.take (i + 1)).filter p = (es.take i).filter p ++ (if p e = true then [e] else []) := by
  have := filter_step (p := p) (f := id) h
  simpa using this
section
variable {w : World} {c : Ctx0} {G : Array GenState} {Z : Zone} {ns : List (Addr × (Str → Option Value))} {l : List (Addr × Obj)} {s : Shared} {A : Around} {E : Value → Shared → Prop}
/-- one, two = [name for name in ('a', 'ab', 'b') if name != head] -/
theorem la_two {L : Addr} {m : Str → Option Value} {head : Str} {th : Tok} {Q : Flow → Shared → Prop} {st' : Stmt} (hst : st' = laAt w.params 10) (hh : A.handled = none) (hT : c.T = [])
    (hS : S w c G Z (((laEnv w L).locals, m) :: ns) ((L + 3, cellO (some (.str head th))) :: l) s) (hl : head ∈ lows)
    (kk : ∀ (one two : Str) (t1 t2 : Tok) (s' : Shared), Three head one two → S w c G Z (((laEnv w L).locals, fun a => if a = Str.ofString "two" then some (.str two t2) else (fun a => if a = Str.ofString "one" then some (.str one t1) else m a) a) :: ns) ((L + 3, cellO (some (.str head th))) :: l) s' → Q .next s') :
    wpAny (model PG w) A (exec st' (laEnv w L)) Q E s := by
  subst hst
  refine Assign_Tuple ?_ (by kernel_rfl) (by kernel_rfl)
  refine comp (cl := [(Str.ofString "head", L + 3)]) ?_
  with_reducible refine mk_tuple ?_
  with_reducible refine args_cons ?_
  with_reducible refine con_str hS fun t1 s1 hS1 => ?_
  with_reducible refine args_cons ?_
  with_reducible refine con_str hS1 fun t2 s2 hS2 => ?_
  with_reducible refine args_one ?_
  with_reducible refine con_str hS2 fun t3 s3 hS3 => ?_
  refine ⟨_, _, _, _, _, hS3, (by show 3 ≤ sizeLine; decide), fun T s5 hTc hS5 => ?_⟩
  refine iter_tuple hS5 (hS5.own' (.head _)) fun I io s6 hne hJ hIc hS6 => ?_
  refine ⟨c, G, Z, _, ns, _, I, io, kTuple T [.str (Str.ofString "a") t1, .str (Str.ofString "ab") t2, .str (Str.ofString "b") t3], fun i ys Z' => StrsV ys ((lows.take i).filter (fun x => !(x == head))) ∧ Z' = Z, rfl, itr_tuple hh I T hne _, hJ, (by show 3 ≤ 10000; decide), hS6, (fun a ha => by rw [hT] at ha; cases ha), ⟨.nil, rfl⟩, (fun Z' ns' a b s hS' _ => ⟨_, hS'.own' (.tail _ (.tail _ (.head _))), rfl, _, rfl⟩), ?_, ?_⟩
  · intro C D2 i v ys Z' m' k' io' s8 E' hi hP hJ' hI hle hS8
    obtain ⟨hI, rfl⟩ := hI
    have hi : i < 3 := hi
    obtain ⟨x, tx, rfl, hx⟩ : ∃ x tx, v = .str x tx ∧ lows[i]? = some x := by
      have hP : [Value.str (Str.ofString "a") t1, .str (Str.ofString "ab") t2, .str (Str.ofString "b") t3][i]? = some v := hP
      rcases i with _ | _ | _ | i
      · injection hP with hP; exact ⟨_, t1, hP.symm, rfl⟩
      · injection hP with hP; exact ⟨_, t2, hP.symm, rfl⟩
      · injection hP with hP; exact ⟨_, t3, hP.symm, rfl⟩
      · omega
    refine wpAny_pure ?_
    refine wpAny_assign_Name (st hS8 fun s9 hS9 => ?_)
    rw [List.forIn_cons]
    simp only [if_true]
    refine wpAny_bind (wpAny_bind (wpAny_isTrue_Compare1 ?_))
    with_reducible refine ld hS9 (v := .str x tx) ?_ ?_
    · walk_at "lk"
    with_reducible refine ldc hS9 (a := L + 3) (v := .str head th) (List.Mem.tail _ (List.Mem.tail _ (List.Mem.tail _ (List.Mem.head _)))) ?_
    refine PyProof.Rows.ne_str (wpAny_truthy_bool (wpAny_pure ?_))
    refine wpAny_pure ?_
    have hstep := two_step (p := fun x => !(x == head)) hx
    by_cases q : (!(x == head)) = true
    · have q' : (x != head) = true := q
      rw [if_pos q] at hstep
      rw [if_pos q']
      with_reducible refine ld hS9 (v := .str x tx) ?_ ?_
      · walk_at "lk"
      refine ⟨Z', _, hle, hS9, ?_, rfl⟩
      rw [hstep]
      exact hI.snoc x tx
    · have q' : ¬ (x != head) = true := q
      rw [if_neg q] at hstep
      rw [if_neg q']
      refine ⟨Z', _, hle, hS9, ?_, rfl⟩
      rw [hstep, List.append_nil]
      exact hI
  · intro D3 ys Z' kn s8 hD3 hI hle hS8
    obtain ⟨hI, rfl⟩ := hI
    obtain ⟨one, two, e, h3⟩ := three_of hl
    have hI : StrsV ys (lows.filter (fun x => !(x == head))) := hI
    rw [e] at hI
    cases hI with
    | cons x t h1 =>
      cases h1 with
      | cons y t' h2 =>
        cases h2
        refine assign_two_list hh hS8 (T := D3) (n := kn) (hS8.own' (.head _)) fun s9 hS9 => ?_
        exact kk one two t t' s9 h3 (hS9.sub (.refl _) (.cons _ (.cons _ (.refl _))))
/-- above, masks = _law_model(head, one, two) -/
theorem la_model {L : Addr} {m : Str → Option Value} {head one two : Str} {th t1 t2 : Tok} {Q : Flow → Shared → Prop} {st' : Stmt} (hst : st' = laAt w.params 11) (hr : Rm A 40) (hT : c.T = [])
    (hS : S w c G Z (((laEnv w L).locals, m) :: ns) ((L + 3, cellO (some (.str head th))) :: l) s) (hm1 : m (Str.ofString "one") = some (.str one t1)) (hm2 : m (Str.ofString "two") = some (.str two t2)) (h3 : Three head one two)
    (kk : ∀ (Ab M : Addr) (avs : List Value) (an : Nat) (mo : Obj) (s' : Shared) (Z' : Zone), Z.le Z' → Z' Ab = some (W.listOf avs.toArray an) → NatsV avs (mdSpec one two).1 → Z' M = some mo → DictNums w mo [head, one, two] (mdSpec one two).2 →
      S w c G Z' (((laEnv w L).locals, fun a => if a = Str.ofString "masks" then some (.ref M) else (fun a => if a = Str.ofString "above" then some (.ref Ab) else m a) a) :: ns) ((L + 3, cellO (some (.str head th))) :: l) s' → Q .next s') :
    wpAny (model PG w) A (exec st' (laEnv w L)) Q E s := by
  subst hst
  obtain ⟨n1, n2, n3, _⟩ := h3.ne
  refine Assign_Tuple ?_ (by kernel_rfl) (by kernel_rfl)
  with_reducible refine callF (f := 244) (by kernel_rfl) ?_
  with_reducible refine is_ldg hS.toZ0 (by kernel_rfl) ?_
  with_reducible refine args_cons ?_
  with_reducible refine ldc hS (a := L + 3) (v := .str head th) (List.Mem.head _) ?_
  with_reducible refine args_cons ?_
  with_reducible refine ld hS hm1 ?_
  with_reducible refine args_one ?_
  with_reducible refine ld hS hm2 ?_
  refine ⟨hS.kin, ?_⟩
  refine model_ok hr hS.toZ0 n1 n2 n3 fun T Ab M avs an mo s' Z' hz hTT hAb hav hM hd => ?_
  have hS2 := hS.back hz (fun a ha => by rw [hT] at ha; cases ha)
  refine assign_two hr.handled hS2 (T := T) (hS2.z _ _ hTT) fun s3 hS3 => ?_
  exact kk Ab M avs an mo s3 Z' hz.zle hAb hav hM hd hS3
/-- due = _law_worlds(tree, above, masks) == 2 ** len(above) - 1 -/
theorem la_due {L Ab M : Addr} {m : Str → Option Value} {one two head : Str} {avs : List Value} {an : Nat} {mo : Obj} {t : Fm} {v : Value} {Q : Flow → Shared → Prop} {st' : Stmt} (hst : st' = laAt w.params 12) (hr : Rm A 100) (hT : c.T = [])
    (hS : S w c G Z (((laEnv w L).locals, m) :: ns) l s) (hm1 : m (Str.ofString "tree") = some v) (hm2 : m (Str.ofString "above") = some (.ref Ab)) (hm3 : m (Str.ofString "masks") = some (.ref M)) (h3 : Three head one two) (hv : TreeAt Z v t) (hn : NamesOk t) (h6 : t.size ≤ 6)
    (hAb : Z Ab = some (W.listOf avs.toArray an)) (hav : NatsV avs (mdSpec one two).1) (hM : Z M = some mo) (hd : DictNums w mo [head, one, two] (mdSpec one two).2)
    (kk : ∀ (s' : Shared) (Z' : Zone), Z.le Z' → S w c G Z' (((laEnv w L).locals, fun a => if a = Str.ofString "due" then some (.bool (decide (wl (mdSpec one two).1 (mdSpec one two).2 t = 2 ^ 28 - 1))) else m a) :: ns) l s' → Q .next s') :
    wpAny (model PG w) A (exec st' (laEnv w L)) Q E s := by
  subst hst
  obtain ⟨_, _, _, hx⟩ := h3.ne
  have hhs := ht_size t
  have hal : (mdSpec one two).1.length = 28 := by rw [md_above]; rfl
  have hvl : avs.length = 28 := by rw [hav.length]; exact hal
  refine wpAny_Assign_Name ?_
  with_reducible refine wpAny_Compare1 ?_ (by kernel_rfl)
  with_reducible refine callF (f := 249) (by kernel_rfl) ?_
  with_reducible refine is_ldg hS.toZ0 (by kernel_rfl) ?_
  with_reducible refine args_cons ?_
  with_reducible refine ld hS hm1 ?_
  with_reducible refine args_cons ?_
  with_reducible refine ld hS hm2 ?_
  with_reducible refine args_one ?_
  with_reducible refine ld hS hm3 ?_
  refine ⟨hS.kin, ?_⟩
  refine worlds_ok (above := (mdSpec one two).1) (mask := (mdSpec one two).2) (by omega) (hr.le (by omega)) hS.toZ0 hAb hav hM (hd.mask hx) hv hn fun tk s2 Z2 hz2 => ?_
  have hS2 := hS.back hz2 (fun a ha => by rw [hT] at ha; cases ha)
  with_reducible refine wpAny_BinOp ?_
  with_reducible refine wpAny_BinOp ?_
  with_reducible refine con_int hS2 fun t3 s3 hS3 => ?_
  with_reducible refine callB (id := "len") ?_
  with_reducible refine is_ldb hS3.toZ0 (by kernel_rfl) (by kernel_rfl) ?_
  with_reducible refine args_one ?_
  with_reducible refine ld hS3 hm2 ?_
  have hz9 : s3.heap.get? Ab = some (W.listOf avs.toArray an) := hS3.z _ _ (hz2.zle _ _ hAb)
  have hsz9 : avs.toArray.size ≤ 1000 := by rw [List.size_toArray]; omega
  with_reducible refine len_ok hS3 hz9 hsz9 fun t4 s4 hS4 => ?_
  rw [List.size_toArray, hvl]
  refine pow_int_small (by decide) (by decide) (by decide) ?_
  have hS5 := hS4.toks (s4.toks + 1)
  with_reducible refine con_int hS5 fun t6 s6 hS6 => ?_
  refine sub_int ?_
  have hS7 := hS6.toks (s6.toks + 1)
  refine PyProof.Rows.eq_int ?_
  have e : (((wl (mdSpec one two).1 (mdSpec one two).2 t : Nat) : Int) == (2 : Int) ^ ((28 : Nat) : Int).toNat - 1) = decide (wl (mdSpec one two).1 (mdSpec one two).2 t = 2 ^ 28 - 1) := by
    rw [show (2 : Int) ^ ((28 : Nat) : Int).toNat - 1 = ((268435455 : Nat) : Int) by decide, show (2 : Nat) ^ 28 - 1 = 268435455 by decide]
    rw [Bool.eq_iff_iff, beq_iff_eq, decide_eq_true_iff]
    omega
  rw [e]
  exact st hS7 fun s8 hS8 => kk s8 Z2 hz2.zle hS8
/-- return str(told) == str(due) and table.items() == [] and (odd == []) -/
theorem la_return {L x dx hl O : Addr} {tk : Tok} {m : Str → Option Value} {b : Bool} {Q : Flow → Shared → Prop} {st' : Stmt} (hst : st' = laAt w.params 13) (hr : Rm A 40)
    (hS : S w c G Z (((laEnv w L).locals, m) :: ns) ((O, W.listOf ([] : List Value).toArray 0) :: (hl, W.listOf ([] : List Value).toArray 0) :: (x, hdI dx) :: (dx, hdD w tk hl) :: l) s)
    (hm1 : m (Str.ofString "told") = some (.bool b)) (hm2 : m (Str.ofString "due") = some (.bool b)) (hm3 : m (Str.ofString "table") = some (.ref x)) (hm4 : m (Str.ofString "odd") = some (.ref O))
    (kk : ∀ (s' : Shared), Z0 w c G Z s' → Q (.ret (.bool true)) s') :
    wpAny (model PG w) A (exec st' (laEnv w L)) Q E s := by
  subst hst
  have hu := hr.ult
  refine wpAny_Return_some ?_
  refine BoolOp_and ?_
  with_reducible refine wpAny_Compare1 ?_ (by kernel_rfl)
  with_reducible refine callT (T := "str") ?_
  with_reducible refine is_ldb hS.toZ0 (by kernel_rfl) (by kernel_rfl) ?_
  with_reducible refine args_one ?_
  with_reducible refine ld hS hm1 ?_
  refine P.str_of_bool ?_
  have hS1 := hS.toks (s.toks + 1)
  with_reducible refine callT (T := "str") ?_
  with_reducible refine is_ldb hS1.toZ0 (by kernel_rfl) (by kernel_rfl) ?_
  with_reducible refine args_one ?_
  with_reducible refine ld hS1 hm2 ?_
  refine P.str_of_bool ?_
  have hS2 := hS1.toks (s.toks + 1 + 1)
  refine PyProof.Rows.eq_str ?_
  rw [beq_self_eq_true]
  refine wpAny_truthy_bool ?_
  rw [if_pos rfl]
  refine BoolOp_and ?_
  with_reducible refine wpAny_Compare1 ?_ (by kernel_rfl)
  with_reducible refine callM (f := 146) ?_
  with_reducible refine ld hS2 hm3 ?_
  refine ⟨x, dx, hl, tk, rfl, hS2.kin, hS2.own' (.tail _ (.tail _ (.head _))), hS2.own' (.tail _ (.tail _ (.tail _ (.head _)))), ?_⟩
  with_reducible refine argsM0 (by kernel_rfl) ⟨hS2.kin, ?_⟩
  refine items_ok (vs := []) (hr.le (by omega)) hS2 (hS2.own' (.tail _ (.tail _ (.head _)))) (hS2.own' (.tail _ (.tail _ (.tail _ (.head _))))) (hS2.own' (.tail _ (.head _))) (by show 0 ≤ sizeLine; decide) (.tail _ (.tail _ (.head _))) (.tail _ (.tail _ (.tail _ (.head _)))) (.tail _ (.head _)) fun D s3 hD hS3 => ?_
  with_reducible refine mk_list ?_
  with_reducible refine args_nil ?_
  refine ⟨_, _, _, _, _, hS3, (by show 0 ≤ sizeLine; decide), fun D2 s4 _ hS4 => ?_⟩
  show wpAny _ A (richCompare .Eq _ _) _ _ _
  refine rc_strs (hS4.own' (.tail _ (.head _))) (hS4.own' (.head _)) .nil .nil (by omega) PG w _ _ ?_
  rw [decide_eq_true rfl]
  refine wpAny_truthy_bool ?_
  rw [if_pos rfl]
  refine BoolOp_one ?_
  with_reducible refine wpAny_Compare1 ?_ (by kernel_rfl)
  with_reducible refine ld hS4 hm4 ?_
  with_reducible refine mk_list ?_
  with_reducible refine args_nil ?_
  refine ⟨_, _, _, _, _, hS4, (by show 0 ≤ sizeLine; decide), fun D3 s5 _ hS5 => ?_⟩
  show wpAny _ A (richCompare .Eq _ _) _ _ _
  refine rc_strs (hS5.own' (.tail _ (.tail _ (.tail _ (.head _))))) (hS5.own' (.head _)) .nil .nil (by omega) PG w _ _ ?_
  rw [decide_eq_true rfl]
  exact kk s5 hS5.toZ0
end
theorem la_parts (w : World) : bodyAt w.params 254 = [laAt w.params 0, laAt w.params 1, laAt w.params 2, laAt w.params 3, laAt w.params 4, laAt w.params 5, laAt w.params 6, laAt w.params 7, laAt w.params 8, laAt w.params 9, laAt w.params 10, laAt w.params 11, laAt w.params 12, laAt w.params 13] := by kernel_rfl
section
variable {w : World} {c : Ctx0} {G : Array GenState} {Z : Zone} {s : Shared} {A : Around} {E Q : Value → Shared → Prop}
/-- law(script) gives True -/
theorem law_ok {a : Addr} {o : Obj} {vs : List Value} {on : Nat} (hr : Rm A 520) (hfs : A.frames = some []) (h : Z0 w c G Z s) (ha : Z a = some o) (hoc : o.cls = .type "list") (hod : o.data = .seq vs.toArray on) (hvl : vs.length ≤ 63) (hvi : ∀ v ∈ vs, ∃ i t, v = .int i t)
    (k : ∀ (s' : Shared) (Z' : Zone) (G' : Array GenState), Z0 w ⟨c.H, s, [], Z⟩ G' Z' s' → Q (.bool true) s') : wpAny (model PG w) A (call (.ref 254) [.ref a]) Q E s := by
  have h1 : (KF w).lookup 254 = some (obAt w.params 254) := by kernel_rfl
  have h2 : (obAt w.params 254).data = .func (fdAt w.params 254) := by kernel_rfl
  have h3 : codeIn (KF w) (fdAt w.params 254).code (fdAt w.params 254).qualname = true := by kernel_rfl
  have h4 : (fdAt w.params 254).body = .stmts (bodyAt w.params 254) := by kernel_rfl
  have h5 : bindArgs (fdAt w.params 254) ⟨[.ref a], []⟩ = pure [(Str.ofString "script", .ref a)] := by kernel_rfl
  refine wpAny_call ?_
  with_reducible refine enterN (fun _ => none) (fun L => [(L + 3, cellO none), (L + 2, cellO none), (L + 1, cellO (some (.ref a)))]) (n := 519) hr h.kin h h1 h2 h3 h4 (bind_pure h5) (by kernel_rfl) (by kernel_rfl) ?_
  intro L s1 hS1 hr1
  have hfs1 : (A.deeper (laEnv w L)).frames = some [laEnv w L] := by show Option.map _ A.frames = _; rw [hfs]; rfl
  have hfn : ∀ m : Str → Option Value, FrOk [laEnv w L] [((laEnv w L).locals, m)] := fun m e he => by
    rw [List.mem_singleton.mp he]
    exact ⟨by show ScopeKind.function ≠ _; decide, _, .head _, rfl⟩
  have hT : (⟨c.H, s, [], Z⟩ : Ctx0).T = [] := rfl
  have hS2 := hS1.perm (l' := (L + 2, cellO none) :: (L + 1, cellO (some (.ref a))) :: (L + 3, cellO none) :: []) (List.perm_append_comm (l₁ := [(L + 2, cellO none), (L + 1, cellO (some (.ref a)))]) (l₂ := [(L + 3, cellO none)]))
  rw [la_parts w]
  with_reducible refine wpAny_execs_cons ?_
  refine la_start rfl hS2 fun St svs s3 hSt hsv hS3 => ?_
  with_reducible refine wpAny_execs_cons ?_
  with_reducible refine la_sums rfl (hr1.le (by omega)) hT hS3 hsv ha hoc hod hvl hvi fun D ys xs kn s4 hxl hxb hys hS4 => ?_
  with_reducible refine wpAny_execs_cons ?_
  with_reducible refine la_drawn rfl (hr1.le (by omega)) hT hS4 put hys hxl fun many ltr msk v d t u s5 Z5 hle5 hm4 hm6 hv hdl hS5 => ?_
  have hd := dok_of hm6 hdl
  have hdn : d.leaves.length = many := by rw [hdl, leavesOf_len]
  have hl6 : d.leaves.length ≤ 6 := by omega
  have hnm := names_d hd
  have hsz := size_d d
  with_reducible refine wpAny_execs_cons ?_
  with_reducible refine la_left rfl (hr1.le (by omega)) hT hS5 (got put (by decide)) hd hl6 fun t6 s6 Z6 G6 hle6 hS6 => ?_
  cases d with
  | leaf k1 a1 b1 =>
    have : (1 : Nat) = many := hdn
    omega
  | node d1 d2 =>
    obtain ⟨pre, post, ht⟩ := turn d1 d2 hd
    with_reducible refine wpAny_execs_cons ?_
    with_reducible refine la_read rfl (hr1.le (by omega)) hT hfs1 (hfn _) hS6 put hd hl6 ht fun v7 t7 s7 Z7 G7 hle7 hv7 hS7 => ?_
    with_reducible refine wpAny_execs_cons ?_
    with_reducible refine la_turned rfl (hr1.le (by omega)) hT hS7 (got (got put (by decide)) (by decide)) (got put (by decide)) hd hl6 ht fun t8 s8 Z8 G8 hle8 hS8 => ?_
    have hle56 := (hle6.trans hle7).trans hle8
    have hv8 := hv.mono hle56
    have hv78 := hv7.mono hle8
    have hhs := ht_size (Dt.node d1 d2).fm
    with_reducible refine wpAny_execs_cons ?_
    with_reducible refine la_if rfl (hr1.le (by omega)) hS8 (got (got (got put (by decide)) (by decide)) (by decide)) (got (got (got (got put (by decide)) (by decide)) (by decide)) (by decide)) (got put (by decide)) (got (got (got (got (got (got put (by decide)) (by decide)) (by decide)) (by decide)) (by decide)) (by decide)) put hv78 hv8 (by omega) fun s9 hS9 => ?_
    with_reducible refine wpAny_execs_cons ?_
    with_reducible refine la_table rfl (hr1.le (by omega)) hT hS9 fun x dx hl O tk s10 hS10 => ?_
    with_reducible refine wpAny_execs_cons ?_
    with_reducible refine la_told rfl (hr1.le (by omega)) hT hS10 (got (got (got put (by decide)) (by decide)) (by decide)) put (got put (by decide)) hv78 hnm (by omega) fun s11 Z11 hle11 hS11 => ?_
    have hS12 := hS11.perm (l' := (L + 3, cellO none) :: (O, W.listOf ([] : List Value).toArray 0) :: (hl, W.listOf ([] : List Value).toArray 0) :: (x, hdI dx) :: (dx, hdD w tk hl) :: (D, W.listOf ys.toArray kn) :: (St, W.listOf svs.toArray 0) :: (L + 2, cellO (some (.ref St))) :: (L + 1, cellO (some (.ref a))) :: [])
      (List.perm_append_comm (l₁ := [(L + 3, cellO none)]) (l₂ := [(O, W.listOf ([] : List Value).toArray 0), (hl, W.listOf ([] : List Value).toArray 0), (x, hdI dx), (dx, hdD w tk hl), (D, W.listOf ys.toArray kn), (St, W.listOf svs.toArray 0), (L + 2, cellO (some (.ref St))), (L + 1, cellO (some (.ref a)))]))
    have hv11 := hv8.mono hle11
    with_reducible refine wpAny_execs_cons ?_
    refine la_head rfl (hr1.le (by omega)) hT hS12 (v := v) (t := (Dt.node d1 d2).fm) ?_ hv11 hnm (by omega) fun th s13 Z13 hle13 hS13 => ?_
    · walk_at "lk"
    with_reducible refine wpAny_execs_cons ?_
    refine la_two rfl hr1.handled hT hS13 (low_in hnm.last) fun one two t1 t2 s14 h3 hS14 => ?_
    with_reducible refine wpAny_execs_cons ?_
    with_reducible refine la_model rfl (hr1.le (by omega)) hT hS14 (got put (by decide)) put h3 fun Ab M avs an mo s15 Z15 hle15 hAb hav hM hdn15 hS15 => ?_
    have hv15 := (hv11.mono hle13).mono hle15
    with_reducible refine wpAny_execs_cons ?_
    refine la_due rfl (hr1.le (by omega)) hT hS15 (v := v) (t := (Dt.node d1 d2).fm) ?_ ?_ ?_ h3 hv15 hnm (by omega) hAb hav hM hdn15 fun s16 Z16 hle16 hS16 => ?_
    · walk_at "lk"
    · walk_at "lk"
    · walk_at "lk"
    have hsr := search_ok h3 hnm (by omega) (by omega) rfl
    rw [← hsr] at hS16
    have hS17 := hS16.perm (l' := (O, W.listOf ([] : List Value).toArray 0) :: (hl, W.listOf ([] : List Value).toArray 0) :: (x, hdI dx) :: (dx, hdD w tk hl) :: (D, W.listOf ys.toArray kn) :: (St, W.listOf svs.toArray 0) :: (L + 2, cellO (some (.ref St))) :: (L + 1, cellO (some (.ref a))) :: (L + 3, cellO (some (.str (low (Dt.node d1 d2).fm.last) th))) :: [])
      (List.perm_append_comm (l₁ := [(O, W.listOf ([] : List Value).toArray 0), (hl, W.listOf ([] : List Value).toArray 0), (x, hdI dx), (dx, hdD w tk hl), (D, W.listOf ys.toArray kn), (St, W.listOf svs.toArray 0), (L + 2, cellO (some (.ref St))), (L + 1, cellO (some (.ref a)))]) (l₂ := [(L + 3, cellO (some (.str (low (Dt.node d1 d2).fm.last) th)))]))
    with_reducible refine wpAny_execs_cons ?_
    refine la_return (b := sr 19 (Dt.node d1 d2).fm [] []) rfl (hr1.le (by omega)) hS17 ?_ ?_ ?_ ?_ fun s18 hz18 => ?_
    · walk_at "lk"
    · walk_at "lk"
    · walk_at "lk"
    · walk_at "lk"
    exact k s18 Z16 _ hz18
end
end Mine
end
open PySem PySem.W PyProof.Rows PySem.Calls PySem.Spec
set_option Elab.async false
set_option maxRecDepth 100000
set_option maxHeartbeats 8000000
namespace Mine
theorem fin.tw13221396546327683414 : True := trivial
theorem fin.tw15666510018370354056 : True := trivial
theorem fin.tw8888600357223281618 : True := trivial
theorem fin.tw2518327787632604826 : True := trivial
theorem fin.tw3524917834074627172 : True := trivial
theorem fin.tw3001713444608396580 : True := trivial
theorem fin.tw11507506404302272217 : True := trivial
theorem fin.tw9716096456110890792 : True := trivial
theorem fin.tw16895049522196809552 : True := trivial
theorem fin.tw5291684633237533370 : True := trivial
theorem fin.tw1488777619060715170 : True := trivial
theorem fin.tw16211047929992225662 : True := trivial
theorem fin.tw1971027274306906267 : True := trivial
theorem fin.tw5139681249394320541 : True := trivial
theorem fin.tw702119425763720232 : True := trivial
theorem fin.tw14507039311653490641 : True := trivial
theorem fin.tw15846055309511109458 : True := trivial
theorem fin.tw10015941623280125720 : True := trivial
theorem fin.tw14036169154352995946 : True := trivial
theorem fin.tw18445444300830216746 : True := trivial
theorem fin.tw2445334534209988144 : True := trivial
theorem fin.tw15497472527740593570 : True := trivial
theorem fin.tw9908521743164178289 : True := trivial
theorem fin.tw10537962194588089157 : True := trivial
theorem fin.tw4291743845922104454 : True := trivial
theorem fin.tw15875838760502184830 : True := trivial
theorem fin.tw8029779442432129890 : True := trivial
theorem fin.tw13449833444171232586 : True := trivial
theorem fin.tw16777196957282017032 : True := trivial
theorem fin.tw7344888150607721261 : True := trivial
theorem fin.tw11434521047140000675 : True := trivial
theorem fin.tw1050215454788665971 : True := trivial
theorem fin.tw9924868186204702650 : True := trivial
theorem fin.tw2986595351699289617 : True := trivial
theorem fin.tw1412715411095470506 : True := trivial
theorem fin.tw10982862429998695089 : True := trivial
theorem fin.tw6218955337656376065 : True := trivial
theorem fin.tw1687608495389655843 : True := trivial
theorem fin.tw7055376407952189787 : True := trivial
theorem fin.tw13438974104106733290 : True := trivial
theorem fin.tw1151431125173238406 : True := trivial
theorem fin.tw3597615787986783107 : True := trivial
theorem fin.tw3775652316193032991 : True := trivial
theorem fin.tw12870153981298063223 : True := trivial
theorem fin.tw5313304008227124433 : True := trivial
theorem fin.tw11023366721461241876 : True := trivial
theorem fin.tw9889836942249193425 : True := trivial
theorem fin.tw12691738925892242658 : True := trivial
theorem fin.tw1172493811112005778 : True := trivial
theorem fin.tw6897496351471272627 : True := trivial
theorem fin.tw17431490575633474237 : True := trivial
theorem fin.tw9602604486481141692 : True := trivial
theorem fin.tw14101212210074526559 : True := trivial
theorem fin.tw15007189217129186178 : True := trivial
theorem fin.tw17831701557444603169 : True := trivial
theorem fin.tw3972733245907303379 : True := trivial
theorem fin.tw5722637987809002293 : True := trivial
theorem fin.tw12346405554607327266 : True := trivial
theorem fin.tw5841164822644244280 : True := trivial
theorem fin.tw12990674161636488019 : True := trivial
theorem fin.tw6227741207031260931 : True := trivial
theorem fin.tw10056622702259557463 : True := trivial
theorem fin.tw10699908585067015650 : True := trivial
theorem fin.tw4279577485771853979 : True := trivial
theorem fin.tw15571853181326863494 : True := trivial
theorem fin.tw4335124896817778512 : True := trivial
theorem fin.tw2430594455760267720 : True := trivial
theorem fin.tw13192474921225889277 : True := trivial
theorem fin.tw13895518096887823452 : True := trivial
theorem fin.tw10163115388976180406 : True := trivial
theorem fin.tw10286805007955971873 : True := trivial
theorem fin.tw9733275713543685348 : True := trivial
theorem fin.tw14788181089696935199 : True := trivial
theorem fin.tw7159127617245474268 : True := trivial
theorem fin.tw2443686041413520621 : True := trivial
theorem fin.tw17269798166242563363 : True := trivial
theorem fin.tw14859483748293320462 : True := trivial
theorem fin.tw14082442107257480166 : True := trivial
theorem fin.tw14562085262976629575 : True := trivial
theorem fin.tw12303274393671133821 : True := trivial
theorem fin.tw18318733016934202581 : True := trivial
theorem fin.tw9242324422997722838 : True := trivial
theorem fin.tw3699304344633483930 : True := trivial
theorem fin.tw10730103355336458214 : True := trivial
theorem fin.tw5113092267928746449 : True := trivial
theorem fin.tw6025575362324150769 : True := trivial
theorem fin.tw16543636274172957895 : True := trivial
theorem fin.tw8202580689224724855 : True := trivial
theorem fin.tw6113322230865646896 : True := trivial
theorem fin.tw12530978616647830077 : True := trivial
theorem fin.tw6028613272040989350 : True := trivial
theorem fin.tw2774805844837694300 : True := trivial
theorem fin.tw17950904935442189918 : True := trivial
theorem fin.tw12953305803058156516 : True := trivial
theorem fin.tw8981335216881536608 : True := trivial
theorem fin.tw16950052303361855040 : True := trivial
theorem fin.tw1970335684244275463 : True := trivial
theorem fin.tw6688023859364591009 : True := trivial
theorem fin.tw9567980294126608472 : True := trivial
theorem fin.tw634046746112491797 : True := trivial
theorem fin.tw12456078783077104910 : True := trivial
theorem fin.tw5529150431874467486 : True := trivial
theorem fin.tw17279316672431202147 : True := trivial
theorem fin.tw964585642249704259 : True := trivial
theorem fin.tw13548834284501389479 : True := trivial
theorem fin.tw5518649813578686510 : True := trivial
theorem fin.tw693577647662655817 : True := trivial
theorem fin.tw10584745474308525940 : True := trivial
theorem fin.tw7790257302778281365 : True := trivial
theorem fin.tw94868424139816031 : True := trivial
theorem fin.tw17594848190555446165 : True := trivial
theorem fin.tw11513374493561741416 : True := trivial
theorem fin.tw15786151642803260290 : True := trivial
theorem fin.tw18115903468970921510 : True := trivial
theorem fin.tw8918941458426902313 : True := trivial
theorem fin.tw12910412397779594109 : True := trivial
theorem fin.tw17880491280599437060 : True := trivial
theorem fin.tw15427648684169686026 : True := trivial
theorem fin.tw7196905495049281074 : True := trivial
theorem fin.tw17962335012771893938 : True := trivial
theorem fin.tw6411448116228961071 : True := trivial
theorem fin.tw2415902012162501839 : True := trivial
theorem fin.tw11587955951900863698 : True := trivial
theorem fin.tw17717364068325071970 : True := trivial
theorem fin.tw1951045429614898598 : True := trivial
theorem fin.tw7930893340574950883 : True := trivial
theorem fin.tw4312942655851389009 : True := trivial
theorem fin.tw12930728656936017687 : True := trivial
theorem fin.tw15688172546075569117 : True := trivial
theorem fin.tw4209717502836232480 : True := trivial
theorem fin.tw876206183137641144 : True := trivial
theorem fin.tw11454252539852477091 : True := trivial
theorem fin.tw13337293482115323266 : True := trivial
theorem fin.tw16175276709679454751 : True := trivial
theorem fin.tw7976502392129159676 : True := trivial
theorem fin.tw16229209127682248589 : True := trivial
theorem fin.tw2512408688544751470 : True := trivial
theorem fin.tw3301814573070591000 : True := trivial
theorem fin.tw17896612028031085017 : True := trivial
theorem fin.tw3955986520655104412 : True := trivial
theorem fin.tw428092273266315144 : True := trivial
theorem fin.tw4785532116021230833 : True := trivial
theorem fin.tw5805905742469029177 : True := trivial
theorem fin.tw1625080806587739848 : True := trivial
theorem fin.tw544173102793226557 : True := trivial
theorem fin.tw4928979718650693569 : True := trivial
theorem fin.tw3253779708953594987 : True := trivial
theorem fin.tw17416127249078093707 : True := trivial
theorem fin.tw7270069303462367756 : True := trivial
theorem fin.tw6712194924023145494 : True := trivial
theorem fin.tw1544503264643628384 : True := trivial
theorem fin.tw15566928917628492161 : True := trivial
theorem fin.tw16252508478716706905 : True := trivial
theorem fin.tw9001875181463519149 : True := trivial
theorem fin.tw7830629276484211593 : True := trivial
theorem fin.tw4588413851689716618 : True := trivial
theorem fin.tw4215105727341614360 : True := trivial
theorem fin.tw17130245016438642246 : True := trivial
theorem fin.tw2462912638960843985 : True := trivial
theorem fin.tw4878226113927451544 : True := trivial
theorem fin.tw4769821431679368130 : True := trivial
theorem fin.tw16205109500356779066 : True := trivial
theorem fin.tw5962627729488381771 : True := trivial
theorem fin.tw3599858809825778643 : True := trivial
theorem fin.tw12347537446847802165 : True := trivial
theorem fin.tw3105451386036433885 : True := trivial
theorem fin.tw13360279666012451719 : True := trivial
theorem fin.tw6656226111208285661 : True := trivial
theorem fin.tw10907391636593693970 : True := trivial
theorem fin.tw16934629359412608497 : True := trivial
theorem fin.tw1560641971993327685 : True := trivial
theorem fin.tw17665283555074236365 : True := trivial
theorem fin.tw662289804386252013 : True := trivial
theorem fin.tw10936777179133785780 : True := trivial
theorem fin.tw9725021084223525626 : True := trivial
theorem fin.tw3598329298470268980 : True := trivial
theorem fin.tw4171678462856256454 : True := trivial
theorem fin.tw7547296005191728479 : True := trivial
theorem fin.tw10580198807604790814 : True := trivial
theorem fin.tw1921391257341544841 : True := trivial
theorem fin.tw8178581820170969963 : True := trivial
theorem fin.tw9350873072053368622 : True := trivial
theorem fin.tw14578271805448956485 : True := trivial
theorem fin.tw11192643925408225281 : True := trivial
theorem fin.tw2910385600587045654 : True := trivial
theorem fin.tw15564276425815640635 : True := trivial
theorem fin.tw9218923581257491847 : True := trivial
theorem fin.tw982560976839675504 : True := trivial
theorem fin.tw9363291351745731410 : True := trivial
theorem fin.tw14679806638718605512 : True := trivial
theorem fin.tw3998398428148030388 : True := trivial
theorem fin.tw13898374239775968522 : True := trivial
theorem fin.tw12946824338688289833 : True := trivial
theorem fin.tw10818889477481085253 : True := trivial
theorem fin.tw12711679700452659978 : True := trivial
theorem fin.tw8416529770105884409 : True := trivial
theorem fin.tw3810570522144960214 : True := trivial
theorem fin.tw6144012678527597917 : True := trivial
theorem fin.tw1422313219903470601 : True := trivial
theorem fin.tw6498334528663615478 : True := trivial
theorem fin.tw15201286185872193147 : True := trivial
theorem fin.tw9746214513668125432 : True := trivial
theorem fin.tw8643116662766533202 : True := trivial
theorem fin.tw14541005305830221311 : True := trivial
theorem fin.tw4040260094072895976 : True := trivial
theorem fin.tw17979336073066592388 : True := trivial
theorem fin.tw6577878126316647860 : True := trivial
theorem fin.tw612862322836996645 : True := trivial
theorem fin.tw4218790737952374519 : True := trivial
theorem fin.tw7613945582906998725 : True := trivial
theorem fin.tw4924110625330727750 : True := trivial
theorem fin.tw1088692219920020602 : True := trivial
theorem fin.tw18105942590061964161 : True := trivial
theorem fin.tw7613857476909055813 : True := trivial
theorem fin.tw6515953530934532768 : True := trivial
theorem fin.tw12135189313929291683 : True := trivial
theorem fin.tw17570709534508481193 : True := trivial
theorem fin.tw11112386831996348380 : True := trivial
theorem fin.tw17041991840579044601 : True := trivial
theorem fin.tw7890596953891613788 : True := trivial
theorem fin.tw8119881530291889089 : True := trivial
theorem fin.tw3222278782482380304 : True := trivial
theorem fin.tw17698704350827878285 : True := trivial
theorem fin.tw2656788454239962097 : True := trivial
theorem fin.tw6766580051018981234 : True := trivial
theorem fin.tw15533503492667675913 : True := trivial
theorem fin.tw5071919506433949198 : True := trivial
theorem fin.tw9917203430921899224 : True := trivial
theorem fin.tw17132207802985990308 : True := trivial
theorem fin.tw8272817396058243321 : True := trivial
theorem fin.tw9973546303253646035 : True := trivial
theorem fin.tw2304379251839397102 : True := trivial
theorem fin.tw5486226609284752418 : True := trivial
theorem fin.tw17662344363894024548 : True := trivial
theorem fin.tw2305881189932309285 : True := trivial
theorem fin.tw2051409578822353534 : True := trivial
theorem fin.tw4693250869231261295 : True := trivial
theorem fin.tw3404873503106905745 : True := trivial
theorem fin.tw11154830654865731599 : True := trivial
theorem fin.tw12557769604369416430 : True := trivial
theorem fin.tw9913140749668108558 : True := trivial
theorem fin.tw6707113841082798463 : True := trivial
theorem fin.tw17861066769153400444 : True := trivial
theorem fin.tw8025084765662995669 : True := trivial
theorem fin.tw4768634762848416435 : True := trivial
theorem fin.tw17656766251404061198 : True := trivial
theorem fin.tw8330952907988395303 : True := trivial
theorem fin.tw10511823565363050587 : True := trivial
theorem fin.tw12105171945263650130 : True := trivial
theorem fin.tw14746900525979965132 : True := trivial
theorem fin.tw17067295170570645592 : True := trivial
theorem fin.tw10829458402184033698 : True := trivial
theorem fin.tw6323506392446703087 : True := trivial
theorem fin.tw1249118550022496774 : True := trivial
theorem fin.tw3451608074906578034 : True := trivial
theorem fin.tw12550770813317053977 : True := trivial
theorem fin.tw7000300075881102575 : True := trivial
theorem fin.tw12580147959424536363 : True := trivial
theorem fin.tw8919302590299486024 : True := trivial
theorem fin.tw13229561489293539574 : True := trivial
theorem fin.tw4598667867955821814 : True := trivial
theorem fin.tw16115155874713506467 : True := trivial
theorem fin.tw5098551885099359569 : True := trivial
theorem fin.tw12180539936304867106 : True := trivial
theorem fin.tw18373065035072037172 : True := trivial
theorem fin.tw11897717083992391400 : True := trivial
theorem fin.tw9722632081671974098 : True := trivial
theorem fin.tw13700621096757390547 : True := trivial
theorem fin.tw12141802397888321627 : True := trivial
theorem fin.tw15741700470354863883 : True := trivial
theorem fin.tw17821466097196317003 : True := trivial
theorem fin.tw10599938827571368224 : True := trivial
theorem fin.tw3683778510129048087 : True := trivial
theorem fin.tw14568449535678555946 : True := trivial
theorem fin.tw7282745182861764756 : True := trivial
theorem fin.tw13177410634674063896 : True := trivial
theorem fin.tw16109372258727991565 : True := trivial
theorem fin.tw16540275574145912595 : True := trivial
theorem fin.tw5320702786494000081 : True := trivial
theorem fin.tw10807920368746810246 : True := trivial
theorem fin.tw6207176494656529804 : True := trivial
theorem fin.tw1635022588487117616 : True := trivial
theorem fin.tw15830942623838425631 : True := trivial
theorem fin.tw7845872953664198349 : True := trivial
theorem fin.tw9361326884244611343 : True := trivial
theorem fin.tw12567809125941998234 : True := trivial
theorem fin.tw6381419901266130222 : True := trivial
theorem fin.tw5067848676765434645 : True := trivial
theorem fin.tw14210890002308233579 : True := trivial
theorem fin.tw6081921254191324426 : True := trivial
theorem fin.tw3343445320678177929 : True := trivial
theorem fin.tw17933470926392208243 : True := trivial
theorem fin.tw744865244796547220 : True := trivial
theorem fin.tw17260493314774615805 : True := trivial
theorem fin.tw12629903358213643309 : True := trivial
theorem fin.tw8947099994592609211 : True := trivial
theorem fin.tw1012361349325877821 : True := trivial
theorem fin.tw7055459427971326715 : True := trivial
theorem fin.tw4265850918314828415 : True := trivial
theorem fin.tw11849305603826036283 : True := trivial
theorem fin.tw12291753297600562012 : True := trivial
theorem fin.tw4640724917100965312 : True := trivial
theorem fin.tw16958243865122950064 : True := trivial
theorem fin.tw18195182924450695511 : True := trivial
theorem fin.tw14139026862911339306 : True := trivial
theorem fin.tw6454446336052903152 : True := trivial
theorem fin.tw4759752924163587094 : True := trivial
theorem fin.tw12355744275394475900 : True := trivial
theorem fin.tw799341379326975648 : True := trivial
theorem fin.tw17204297501091165112 : True := trivial
theorem fin.tw15344004072050561172 : True := trivial
theorem fin.tw10098057777631523497 : True := trivial
theorem fin.tw5102460946473063141 : True := trivial
theorem fin.tw8656503046869711584 : True := trivial
theorem fin.tw12212933522069011988 : True := trivial
theorem fin.tw13516622038369049944 : True := trivial
theorem fin.tw13870153662132920491 : True := trivial
theorem fin.tw2236755162388048479 : True := trivial
theorem fin.tw6968583824967984638 : True := trivial
theorem fin.tw12149302876761508202 : True := trivial
theorem fin.tw1374033575008642842 : True := trivial
theorem fin.tw12237877928780879103 : True := trivial
theorem fin.tw2976117146107443816 : True := trivial
theorem fin.tw17719728818120068181 : True := trivial
theorem fin.tw807531904560671035 : True := trivial
theorem fin.tw6342058667729863793 : True := trivial
theorem fin.tw14109310954907245088 : True := trivial
theorem fin.tw12464766053444552404 : True := trivial
theorem fin.tw16935703041343069523 : True := trivial
theorem fin.tw17449020081951674710 : True := trivial
theorem fin.tw7451905468542833597 : True := trivial
theorem fin.tw15205425988870721313 : True := trivial
theorem fin.tw14856888987745899463 : True := trivial
theorem fin.tw17974384156558142227 : True := trivial
theorem fin.tw2321816554428607280 : True := trivial
theorem fin.tw4684940682943077961 : True := trivial
theorem fin.tw4950403968356008110 : True := trivial
theorem fin.tw891787732878383699 : True := trivial
theorem fin.tw10162525131873970293 : True := trivial
theorem fin.tw4170516301191304579 : True := trivial
theorem fin.tw17347454772498655404 : True := trivial
theorem fin.tw6232080684201472732 : True := trivial
theorem fin.tw9357874355931990178 : True := trivial
theorem fin.tw16307707646766795581 : True := trivial
theorem fin.tw5796354222422608987 : True := trivial
theorem fin.tw9735714214384596553 : True := trivial
theorem fin.tw4879674094562380441 : True := trivial
theorem fin.tw999798209818781672 : True := trivial
theorem fin.tw17869975865946814897 : True := trivial
theorem fin.tw3975253019698251321 : True := trivial
theorem fin.tw228799423537328835 : True := trivial
theorem fin.tw2316539691658765527 : True := trivial
theorem fin.tw2367325634123391141 : True := trivial
theorem fin.tw7321584467024264148 : True := trivial
theorem fin.tw5734618986648460908 : True := trivial
theorem fin.tw2671655128345628175 : True := trivial
theorem fin.tw14574801432027512755 : True := trivial
theorem fin.tw13162651487661262736 : True := trivial
theorem fin.tw6388184931127306564 : True := trivial
theorem fin.tw13294311002278339166 : True := trivial
theorem fin.tw3173534031939492945 : True := trivial
theorem fin.tw16196181902256332553 : True := trivial
theorem fin.tw7803649310394182010 : True := trivial
theorem fin.tw6566618420281934 : True := trivial
theorem fin.tw3459265974087741279 : True := trivial
theorem fin.tw18387650150990424433 : True := trivial
theorem fin.tw6474043946942992101 : True := trivial
theorem fin.tw10383673109516279431 : True := trivial
theorem fin.tw13790858721211988464 : True := trivial
theorem fin.tw1982079694162106894 : True := trivial
theorem fin.tw12221555665107904926 : True := trivial
theorem fin.tw8018989035897545986 : True := trivial
theorem fin.tw6961879125226527168 : True := trivial
theorem fin.tw12494888245299231016 : True := trivial
theorem fin.tw8590288500278120515 : True := trivial
theorem fin.tw11336253725339858928 : True := trivial
theorem fin.tw12962497063298326498 : True := trivial
theorem fin.tw16656299143469825513 : True := trivial
theorem fin.tw757079261281740938 : True := trivial
theorem fin.tw14431720936831517352 : True := trivial
theorem fin.tw5293390819737331289 : True := trivial
theorem fin.tw16496857829328116044 : True := trivial
theorem fin.tw3263211703599914710 : True := trivial
theorem fin.tw15049546695650249566 : True := trivial
theorem fin.tw14786503066443513839 : True := trivial
theorem fin.tw6650461044873433052 : True := trivial
theorem fin.tw15149952090015108872 : True := trivial
theorem fin.tw15373703851562958014 : True := trivial
theorem fin.tw5402249366112354979 : True := trivial
theorem fin.tw17801579834951734752 : True := trivial
theorem fin.tw9544026089342320630 : True := trivial
theorem fin.tw15989303212955285315 : True := trivial
theorem fin.tw8281523328739849912 : True := trivial
theorem fin.tw15832999045522443761 : True := trivial
theorem fin.tw11615019562542576733 : True := trivial
theorem fin.tw895571856199123645 : True := trivial
theorem fin.tw251868834278440796 : True := trivial
theorem fin.tw8559517257967667466 : True := trivial
theorem fin.tw7470013935711676318 : True := trivial
theorem fin.tw3125960719983571848 : True := trivial
theorem fin.tw6956187926921108005 : True := trivial
theorem fin.tw1963134401048803436 : True := trivial
theorem fin.tw11575174756993882273 : True := trivial
theorem fin.tw8383268338085895543 : True := trivial
theorem fin.tw15942684835789789487 : True := trivial
theorem fin.tw17512474026176034454 : True := trivial
theorem fin.tw5901363791540438844 : True := trivial
theorem fin.tw8577089030196625639 : True := trivial
theorem fin.tw7779959011674639804 : True := trivial
theorem fin.tw13066358836101814915 : True := trivial
theorem fin.tw10196768644732416780 : True := trivial
theorem fin.tw4443050520305737185 : True := trivial
theorem fin.tw4898026214463823928 : True := trivial
theorem fin.tw18322396300614539805 : True := trivial
theorem fin.tw5784358593452591249 : True := trivial
theorem fin.tw9387745189664136937 : True := trivial
theorem fin.tw380778119907437045 : True := trivial
theorem fin.tw6634307039904815820 : True := trivial
theorem fin.tw12118000046449163591 : True := trivial
theorem fin.tw17963964198891936676 : True := trivial
theorem fin.tw6068950659093879613 : True := trivial
theorem fin.tw17784850919643140607 : True := trivial
theorem fin.tw14814673180317915700 : True := trivial
theorem fin.tw10895054467252067526 : True := trivial
theorem fin.tw10212952176985394431 : True := trivial
theorem fin.tw18105285910621931680 : True := trivial
theorem fin.tw1535588207084551279 : True := trivial
theorem fin.tw857469055436470443 : True := trivial
theorem fin.tw6846200578177281708 : True := trivial
theorem fin.tw5863258528049689039 : True := trivial
theorem fin.tw5678346346211369953 : True := trivial
theorem fin.tw7039413970001822932 : True := trivial
theorem fin.tw17164383140453370395 : True := trivial
theorem fin.tw12448240930570709186 : True := trivial
theorem fin.tw670465573061467203 : True := trivial
theorem fin.tw4868334931027891882 : True := trivial
theorem fin.tw3029852977388229646 : True := trivial
theorem fin.tw2537931557510868981 : True := trivial
theorem fin.tw14721812458927722005 : True := trivial
theorem fin.tw3810338749695602999 : True := trivial
theorem fin.tw11607805686811502034 : True := trivial
theorem fin.tw12356021495744459628 : True := trivial
theorem fin.tw11466478281803324712 : True := trivial
theorem fin.tw15815952407149668801 : True := trivial
theorem fin.tw13724452099449386491 : True := trivial
theorem fin.tw16401934584784274106 : True := trivial
theorem fin.tw8269367382603917829 : True := trivial
theorem fin.tw7675655780812522254 : True := trivial
theorem fin.tw14560573928864763818 : True := trivial
theorem fin.tw13158425560686309300 : True := trivial
theorem fin.tw480829909506669009 : True := trivial
theorem fin.tw16530489862217454893 : True := trivial
theorem fin.tw1666694428299288667 : True := trivial
theorem fin.tw12996517811204074000 : True := trivial
theorem fin.tw2775396313129547428 : True := trivial
theorem fin.tw10070804522480449196 : True := trivial
theorem fin.tw7844069586390513008 : True := trivial
theorem fin.tw4570111826955561243 : True := trivial
theorem fin.tw17362494058136835672 : True := trivial
theorem fin.tw1976505206021243879 : True := trivial
theorem fin.tw14517287926952318261 : True := trivial
theorem fin.tw7249652514872940865 : True := trivial
theorem fin.tw15573402996174437187 : True := trivial
theorem fin.tw10699407837109476802 : True := trivial
theorem fin.tw6567050819087999508 : True := trivial
theorem fin.tw3573219210906474937 : True := trivial
theorem fin.tw11414674201277728305 : True := trivial
theorem fin.tw13925877587632400325 : True := trivial
theorem fin.tw1397303283331804279 : True := trivial
theorem fin.tw18164189302063226315 : True := trivial
theorem fin.tw16570786720924097770 : True := trivial
theorem fin.tw1014637456484912126 : True := trivial
theorem fin.tw10925335251469727208 : True := trivial
theorem fin.tw2866121171748074186 : True := trivial
theorem fin.tw7929640520542984453 : True := trivial
theorem fin.tw12715164417514623954 : True := trivial
theorem fin.tw8113439584364656439 : True := trivial
theorem fin.tw18186706949227917456 : True := trivial
theorem fin.tw884059145510264010 : True := trivial
theorem fin.tw17519925290374975397 : True := trivial
theorem fin.tw10007411396671696613 : True := trivial
theorem fin.tw1613116972386908190 : True := trivial
theorem fin.tw16269368082590959529 : True := trivial
theorem fin.tw5897612983314593646 : True := trivial
theorem fin.tw5776136370200156792 : True := trivial
theorem fin.tw5934825339627483726 : True := trivial
theorem fin.tw8668149382578428375 : True := trivial
theorem fin.tw4754365596532378047 : True := trivial
theorem fin.tw16285329926789087883 : True := trivial
theorem fin.tw4788878847521262168 : True := trivial
theorem fin.tw10875463905939285979 : True := trivial
theorem fin.tw14245171486683049214 : True := trivial
theorem fin.tw10242451874928486539 : True := trivial
theorem fin.tw14831621372327356649 : True := trivial
theorem fin.tw12869217540446652890 : True := trivial
theorem fin.tw1887099378405440850 : True := trivial
theorem fin.tw1819255440876223710 : True := trivial
theorem fin.tw17197158672614542318 : True := trivial
theorem fin.tw216489041496292469 : True := trivial
theorem fin.tw6455845175183424153 : True := trivial
set_option Elab.async true in
theorem fin : PySem.Challenge.rw_tc0059_01.Holds := by
  w_on; o_law; o_head (kHook kf kfs (fun _ => by kernel_rfl)); (case hw => w_witness2)
  intro w s₀ s₁ mg mb G Y fa o pm cd doc dV kV ho hd hcd hD hmg hg args vals as hpre hlay hrd hwl hlo
  have KX := kIn_of Y
  refine Ground.open G ?_
  intro T B D TE TW
  wrow_args hpre hlay hrd hwl hlo
  have hfa : fa = 254 := by
    have e := mg_of (n := Str.ofString "law") (v := .ref 254) KX T.g (by kernel_rfl)
    have h2 : mg (Str.ofString "law") = some (.ref fa) := hmg
    rw [e] at h2
    injection h2 with h2
    injection h2 with h2
    exact h2.symm
  subst hfa
  clear hd hcd hD ho hmg
  rename_i hL ra w1 r0 hI hr hc1 hc2
  obtain ⟨ol, hol, hoc, on, hod⟩ := hL
  have hZ0 : Z0 w ⟨s₁.heap, s₁, [], fun b => s₁.heap.get? b⟩ s₁.gens (fun b => s₁.heap.get? b) s₁ :=
    ⟨⟨KX, T.nolimit, ⟨mg, T.g⟩, ⟨mb, T.b, T.builtins⟩, T.nodigits⟩, fun _ _ e => e, fun _ _ e => e, .refl _, fun _ _ _ => rfl, fun _ _ _ e => e, (fun a ha => nomatch ha), rfl, rfl, .of_eq hg⟩
  refine law_ok (A := callerA) (o := ol) (on := on) ⟨?_, ?_, rfl⟩ rfl hZ0 hol hoc hod ?_ ?_ fun s' Z' G' hz => ?_
  · decide
  · decide
  · have := hI.length
    omega
  · intro v hv
    exact hI.allInts v (by simpa using hv)
  · refine ⟨.inl ⟨.bool true, _, [], rfl, fun _ => rfl, .bool true, ?_, fun _ => ⟨List.nodup_nil, fun _ hm => (nomatch hm)⟩⟩, .of_keep fun b o e => hz.keep b o (fun q => nomatch q) e, hz.os, ?_⟩
    · first | rfl | wrow_post
    · rw [hz.gens]; exact hz.bare
end Mine
theorem PySem.Challenge.cw_tc0059_01_holds : PySem.Challenge.rw_tc0059_01.Holds := by
  exact Mine.fin
