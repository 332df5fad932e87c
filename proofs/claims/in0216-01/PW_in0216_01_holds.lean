import PyProof.Rows.All
import Wide.All
import OpenK.AllK
import Wide.FinOn
import Lean
import PySem.Challenge.RW_in0216_01
open PySem PySem.W PyProof.Rows
set_option Elab.async false
set_option maxRecDepth 100000
set_option maxHeartbeats 0
set_option linter.unusedVariables false
set_option genInjectivity false
set_option genSizeOf false
set_option compiler.extract_closed false
set_option pp.deepTerms false
set_option pp.deepTerms.threshold 4
namespace Mine
section S_HdK
set_option maxRecDepth 1000000
set_option maxHeartbeats 0
noncomputable def P0 : Program := PySem.Challenge.pw_in0216_01
noncomputable def q0 : Program := { P0 with main := { P0.main with body := P0.main.body.drop 29 } }
noncomputable def loose0 : List PySem.Str := ["__name__", "_twin_re_1", "translate", "_special_chars_map", "escape", "_translate", "_join_translated_parts", "IPV4_RE", "liberal_is_HDN", "user_domain_match", "sorted_list_difference", "_law_pair", "_law_words", "_law_read", "_law_fits", "_law_takes", "_law_written", "_law_behind", "_law_ahead", "_law_rests", "_law_rounds", "_law_readings", "_law_right", "_sre"]
noncomputable def stm (i : Nat) : Stmt := (P0.main.body[i]?).getD (.Pass ⟨0, 0, 0, 0⟩)
noncomputable def fdName : Stmt → PySem.Str
  | .FunctionDef n _ _ _ _ _ _ _ _ _ => n
  | _ => Str.empty
noncomputable def fdArgs : Stmt → Arguments
  | .FunctionDef _ a _ _ _ _ _ _ _ _ => a
  | _ => default
noncomputable def fdBody : Stmt → List Stmt
  | .FunctionDef _ _ b _ _ _ _ _ _ _ => b
  | _ => []
noncomputable def fdScope : Stmt → Scope
  | .FunctionDef _ _ _ _ _ _ s _ _ _ => s
  | _ => default
noncomputable def fobj (i : Nat) (pm : Value) (c : Addr) : Obj :=
  ⟨.type "function", none, .func (fnOf (fdName (stm i)) (fdName (stm i)) (fdArgs (stm i)) (fdBody (stm i)) (fdScope (stm i)) .none .none .none pm none (.ref c) .none), #[]⟩
noncomputable def o3 (P : Params) : Obj := ⟨.type "dict", none, .dict #[⟨PyData.keyHash P (Str.ofString "__name__"), .str (Str.ofString "__name__") 165, .str (Str.ofString "law_in0216_01") 584⟩, ⟨PyData.keyHash P (Str.ofString "__doc__"), .str (Str.ofString "__doc__") 166, .none⟩, ⟨PyData.keyHash P (Str.ofString "__package__"), .str (Str.ofString "__package__") 167, .none⟩, ⟨PyData.keyHash P (Str.ofString "__loader__"), .str (Str.ofString "__loader__") 168, .builtin "__main__.__loader__#opaque"⟩, ⟨PyData.keyHash P (Str.ofString "__spec__"), .str (Str.ofString "__spec__") 169, .none⟩, ⟨PyData.keyHash P (Str.ofString "__annotations__"), .str (Str.ofString "__annotations__") 170, .ref 6⟩, ⟨PyData.keyHash P (Str.ofString "__builtins__"), .str (Str.ofString "__builtins__") 171, .ref 4⟩, ⟨PyData.keyHash P (Str.ofString "__file__"), .str (Str.ofString "__file__") 173, .str (Str.ofString "/claim/cut.py") 172⟩, ⟨PyData.keyHash P (Str.ofString "__cached__"), .str (Str.ofString "__cached__") 174, .none⟩, ⟨PyData.keyHash P (Str.ofString "_sre"), .str (Str.ofString "_sre") 275, .ref 12⟩, ⟨PyData.keyHash P (Str.ofString "_twin_re_1"), .str (Str.ofString "_twin_re_1") 321, .ref 36⟩, ⟨PyData.keyHash P (Str.ofString "translate"), .str (Str.ofString "translate") 330, .ref 43⟩, ⟨PyData.keyHash P (Str.ofString "_special_chars_map"), .str (Str.ofString "_special_chars_map") 478, .ref 45⟩, ⟨PyData.keyHash P (Str.ofString "escape"), .str (Str.ofString "escape") 485, .ref 55⟩, ⟨PyData.keyHash P (Str.ofString "_translate"), .str (Str.ofString "_translate") 506, .ref 62⟩, ⟨PyData.keyHash P (Str.ofString "_join_translated_parts"), .str (Str.ofString "_join_translated_parts") 519, .ref 69⟩, ⟨PyData.keyHash P (Str.ofString "IPV4_RE"), .str (Str.ofString "IPV4_RE") 551, .ref 74⟩, ⟨PyData.keyHash P (Str.ofString "liberal_is_HDN"), .str (Str.ofString "liberal_is_HDN") 558, .ref 81⟩, ⟨PyData.keyHash P (Str.ofString "user_domain_match"), .str (Str.ofString "user_domain_match") 567, .ref 88⟩, ⟨PyData.keyHash P (Str.ofString "sorted_list_difference"), .str (Str.ofString "sorted_list_difference") 583, .ref 95⟩, ⟨PyData.keyHash P (Str.ofString "_law_pair"), .str (Str.ofString "_law_pair") 595, .ref 102⟩, ⟨PyData.keyHash P (Str.ofString "_law_words"), .str (Str.ofString "_law_words") 601, .ref 107⟩, ⟨PyData.keyHash P (Str.ofString "_law_read"), .str (Str.ofString "_law_read") 613, .ref 114⟩, ⟨PyData.keyHash P (Str.ofString "_law_fits"), .str (Str.ofString "_law_fits") 623, .ref 121⟩, ⟨PyData.keyHash P (Str.ofString "_law_takes"), .str (Str.ofString "_law_takes") 634, .ref 128⟩, ⟨PyData.keyHash P (Str.ofString "_law_written"), .str (Str.ofString "_law_written") 640, .ref 133⟩, ⟨PyData.keyHash P (Str.ofString "_law_behind"), .str (Str.ofString "_law_behind") 649, .ref 140⟩, ⟨PyData.keyHash P (Str.ofString "_law_ahead"), .str (Str.ofString "_law_ahead") 659, .ref 147⟩, ⟨PyData.keyHash P (Str.ofString "_law_rests"), .str (Str.ofString "_law_rests") 675, .ref 154⟩, ⟨PyData.keyHash P (Str.ofString "_law_rounds"), .str (Str.ofString "_law_rounds") 681, .ref 159⟩, ⟨PyData.keyHash P (Str.ofString "_law_readings"), .str (Str.ofString "_law_readings") 697, .ref 166⟩, ⟨PyData.keyHash P (Str.ofString "_law_right"), .str (Str.ofString "_law_right") 703, .ref 171⟩, ⟨PyData.keyHash P (Str.ofString "law"), .str (Str.ofString "law") 709, .ref 176⟩] 33, #[]⟩
noncomputable def o35 (_ : Params) : Obj := ⟨.type "tuple", none, .seq #[.int 14 0, .int 14 0, .int 4 0, .int 1 0, .int 1 0, .int 9 0, .int 0 0, .int 64 0, .int 0 0, .int 1342177280 0, .int 0 0, .int 0 0, .int 0 0, .int 0 0, .int 0 0, .int 17 0, .int 0 0, .int 13 0, .int 11 0, .int 9 0, .int 0 0, .int 64 0, .int 0 0, .int 1342177280 0, .int 0 0, .int 0 0, .int 0 0, .int 0 0, .int 0 0, .int 17 0, .int 1 0, .int 1 0] 0, #[]⟩
noncomputable def o36 (_ : Params) : Obj := ⟨.type "re.Pattern", none, .fields #[.str (Str.ofString "([&~|])") 285, .int 32 320, .int 1 0, .none, .none, .ref 35, .int 0 0], #[]⟩
noncomputable def o42 (_ : Params) : Obj := ⟨.type "code", none, .fields #[.str (Str.ofString "translate") 322, .str (Str.ofString "translate") 323, .str (Str.ofString "/claim/cut.py") 324, .int 4 0, .int 1 0, .int 0 0, .int 0 0, .int 3 0, .ref 37, .bool true, .int 276 0, .ref 38, .none, .ref 39, .ref 40, .ref 41, .int 328 0, .int 4 0, .str (Str.ofString "/claim/cut.py") 329], #[]⟩
noncomputable def o43 (_ : Params) : Obj := fobj 3 (.str (Str.ofString "cpy313.fnmatch") 282) 42
noncomputable def es45 : List DictEntry := [⟨40, .int 40 334, .str (Str.ofString "\\(") 338⟩, ⟨41, .int 41 340, .str (Str.ofString "\\)") 344⟩, ⟨91, .int 91 346, .str (Str.ofString "\\[") 350⟩, ⟨93, .int 93 352, .str (Str.ofString "\\]") 356⟩, ⟨123, .int 123 358, .str (Str.ofString "\\{") 362⟩, ⟨125, .int 125 364, .str (Str.ofString "\\}") 368⟩, ⟨63, .int 63 370, .str (Str.ofString "\\?") 374⟩, ⟨42, .int 42 376, .str (Str.ofString "\\*") 380⟩, ⟨43, .int 43 382, .str (Str.ofString "\\+") 386⟩, ⟨45, .int 45 388, .str (Str.ofString "\\-") 392⟩, ⟨124, .int 124 394, .str (Str.ofString "\\|") 398⟩, ⟨94, .int 94 400, .str (Str.ofString "\\^") 404⟩, ⟨36, .int 36 406, .str (Str.ofString "\\$") 410⟩, ⟨92, .int 92 412, .str (Str.ofString "\\\\") 416⟩, ⟨46, .int 46 418, .str (Str.ofString "\\.") 422⟩, ⟨38, .int 38 424, .str (Str.ofString "\\&") 428⟩, ⟨126, .int 126 430, .str (Str.ofString "\\~") 434⟩, ⟨35, .int 35 436, .str (Str.ofString "\\#") 440⟩, ⟨32, .int 32 442, .str (Str.ofString "\\ ") 446⟩, ⟨9, .int 9 448, .str (Str.ofString "\\\t") 452⟩, ⟨10, .int 10 454, .str (Str.ofString "\\\n") 458⟩, ⟨13, .int 13 460, .str (Str.ofString "\\\r") 464⟩, ⟨11, .int 11 466, .str (Str.ofString "\\\x0b") 470⟩, ⟨12, .int 12 472, .str (Str.ofString "\\\x0c") 476⟩]
noncomputable def o45 (_ : Params) : Obj := ⟨.type "dict", none, .dict es45.toArray 24, #[]⟩
noncomputable def o54 (_ : Params) : Obj := ⟨.type "code", none, .fields #[.str (Str.ofString "escape") 479, .str (Str.ofString "escape") 480, .str (Str.ofString "/claim/cut.py") 481, .int 10 0, .int 1 0, .int 0 0, .int 0 0, .int 3 0, .ref 49, .bool true, .int 276 0, .ref 50, .none, .ref 51, .ref 52, .ref 53, .int 483 0, .int 10 0, .str (Str.ofString "/claim/cut.py") 484], #[]⟩
noncomputable def o55 (_ : Params) : Obj := fobj 6 (.str (Str.ofString "re") 331) 54
noncomputable def o61 (_ : Params) : Obj := ⟨.type "code", none, .fields #[.str (Str.ofString "_translate") 488, .str (Str.ofString "_translate") 489, .str (Str.ofString "/claim/cut.py") 490, .int 17 0, .int 3 0, .int 0 0, .int 0 0, .int 3 0, .ref 56, .bool true, .int 276 0, .ref 57, .none, .ref 58, .ref 59, .ref 60, .int 504 0, .int 17 0, .str (Str.ofString "/claim/cut.py") 505], #[]⟩
noncomputable def o62 (_ : Params) : Obj := fobj 8 (.str (Str.ofString "cpy313.fnmatch") 486) 61
noncomputable def o68 (_ : Params) : Obj := ⟨.type "code", none, .fields #[.str (Str.ofString "_join_translated_parts") 507, .str (Str.ofString "_join_translated_parts") 508, .str (Str.ofString "/claim/cut.py") 509, .int 79 0, .int 2 0, .int 0 0, .int 0 0, .int 3 0, .ref 63, .bool true, .int 276 0, .ref 64, .none, .ref 65, .ref 66, .ref 67, .int 517 0, .int 79 0, .str (Str.ofString "/claim/cut.py") 518], #[]⟩
noncomputable def o69 (_ : Params) : Obj := fobj 9 (.str (Str.ofString "cpy313.fnmatch") 486) 68
noncomputable def o73 (_ : Params) : Obj := ⟨.type "tuple", none, .seq #[.int 14 0, .int 8 0, .int 1 0, .int 2 0, .int 4294967295 0, .int 1 0, .int 1 0, .int 46 0, .int 0 0, .int 16 0, .int 46 0, .int 24 0, .int 9 0, .int 1 0, .int 4294967295 0, .int 13 0, .int 4 0, .int 8 0, .int 0 0, .int 0 0, .int 1 0, .int 6 0, .int 5 0, .int 1 0] 0, #[]⟩
noncomputable def o74 (_ : Params) : Obj := ⟨.type "re.Pattern", none, .fields #[.str (Str.ofString "\\.\\d+$") 523, .int 256 550, .int 0 0, .none, .none, .ref 73, .int 0 0], #[]⟩
noncomputable def o80 (_ : Params) : Obj := ⟨.type "code", none, .fields #[.str (Str.ofString "liberal_is_HDN") 552, .str (Str.ofString "liberal_is_HDN") 553, .str (Str.ofString "/claim/cut.py") 554, .int 108 0, .int 1 0, .int 0 0, .int 0 0, .int 3 0, .ref 75, .bool true, .int 276 0, .ref 76, .none, .ref 77, .ref 78, .ref 79, .int 556 0, .int 108 0, .str (Str.ofString "/claim/cut.py") 557], #[]⟩
noncomputable def o81 (_ : Params) : Obj := fobj 12 (.str (Str.ofString "cpy313.http.cookiejar") 520) 80
noncomputable def o87 (_ : Params) : Obj := ⟨.type "code", none, .fields #[.str (Str.ofString "user_domain_match") 559, .str (Str.ofString "user_domain_match") 560, .str (Str.ofString "/claim/cut.py") 561, .int 112 0, .int 2 0, .int 0 0, .int 0 0, .int 3 0, .ref 82, .bool true, .int 276 0, .ref 83, .none, .ref 84, .ref 85, .ref 86, .int 565 0, .int 112 0, .str (Str.ofString "/claim/cut.py") 566], #[]⟩
noncomputable def o88 (_ : Params) : Obj := fobj 13 (.str (Str.ofString "cpy313.http.cookiejar") 520) 87
noncomputable def o94 (_ : Params) : Obj := ⟨.type "code", none, .fields #[.str (Str.ofString "sorted_list_difference") 570, .str (Str.ofString "sorted_list_difference") 571, .str (Str.ofString "/claim/cut.py") 572, .int 126 0, .int 2 0, .int 0 0, .int 0 0, .int 3 0, .ref 89, .bool true, .int 276 0, .ref 90, .none, .ref 91, .ref 92, .ref 93, .int 581 0, .int 126 0, .str (Str.ofString "/claim/cut.py") 582], #[]⟩
noncomputable def o95 (_ : Params) : Obj := fobj 15 (.str (Str.ofString "cpy313.unittest.util") 568) 94
noncomputable def o101 (_ : Params) : Obj := ⟨.type "code", none, .fields #[.str (Str.ofString "_law_pair") 586, .str (Str.ofString "_law_pair") 587, .str (Str.ofString "/claim/cut.py") 588, .int 159 0, .int 1 0, .int 0 0, .int 0 0, .int 3 0, .ref 96, .bool true, .int 276 0, .ref 97, .none, .ref 98, .ref 99, .ref 100, .int 593 0, .int 159 0, .str (Str.ofString "/claim/cut.py") 594], #[]⟩
noncomputable def o102 (_ : Params) : Obj := fobj 17 (.str (Str.ofString "law_in0216_01") 584) 101
noncomputable def o106 (_ : Params) : Obj := ⟨.type "code", none, .fields #[.str (Str.ofString "_law_words") 596, .str (Str.ofString "_law_words") 597, .str (Str.ofString "/claim/cut.py") 598, .int 164 0, .int 2 0, .int 0 0, .int 0 0, .int 3 0, .ref 103, .bool true, .int 276 0, .ref 104, .none, .none, .none, .ref 105, .int 599 0, .int 164 0, .str (Str.ofString "/claim/cut.py") 600], #[]⟩
noncomputable def o107 (_ : Params) : Obj := fobj 18 (.str (Str.ofString "law_in0216_01") 584) 106
noncomputable def o113 (_ : Params) : Obj := ⟨.type "code", none, .fields #[.str (Str.ofString "_law_read") 602, .str (Str.ofString "_law_read") 603, .str (Str.ofString "/claim/cut.py") 604, .int 176 0, .int 1 0, .int 0 0, .int 0 0, .int 3 0, .ref 108, .bool true, .int 276 0, .ref 109, .none, .ref 110, .ref 111, .ref 112, .int 611 0, .int 176 0, .str (Str.ofString "/claim/cut.py") 612], #[]⟩
noncomputable def o114 (_ : Params) : Obj := fobj 19 (.str (Str.ofString "law_in0216_01") 584) 113
noncomputable def o120 (_ : Params) : Obj := ⟨.type "code", none, .fields #[.str (Str.ofString "_law_fits") 614, .str (Str.ofString "_law_fits") 615, .str (Str.ofString "/claim/cut.py") 616, .int 209 0, .int 2 0, .int 0 0, .int 0 0, .int 3 0, .ref 115, .bool true, .int 276 0, .ref 116, .none, .ref 117, .ref 118, .ref 119, .int 621 0, .int 209 0, .str (Str.ofString "/claim/cut.py") 622], #[]⟩
noncomputable def o121 (_ : Params) : Obj := fobj 20 (.str (Str.ofString "law_in0216_01") 584) 120
noncomputable def o127 (_ : Params) : Obj := ⟨.type "code", none, .fields #[.str (Str.ofString "_law_takes") 624, .str (Str.ofString "_law_takes") 625, .str (Str.ofString "/claim/cut.py") 626, .int 214 0, .int 2 0, .int 0 0, .int 0 0, .int 3 0, .ref 122, .bool true, .int 276 0, .ref 123, .none, .ref 124, .ref 125, .ref 126, .int 632 0, .int 214 0, .str (Str.ofString "/claim/cut.py") 633], #[]⟩
noncomputable def o128 (_ : Params) : Obj := fobj 21 (.str (Str.ofString "law_in0216_01") 584) 127
noncomputable def o132 (_ : Params) : Obj := ⟨.type "code", none, .fields #[.str (Str.ofString "_law_written") 635, .str (Str.ofString "_law_written") 636, .str (Str.ofString "/claim/cut.py") 637, .int 221 0, .int 1 0, .int 0 0, .int 0 0, .int 3 0, .ref 129, .bool true, .int 276 0, .ref 130, .none, .none, .none, .ref 131, .int 638 0, .int 221 0, .str (Str.ofString "/claim/cut.py") 639], #[]⟩
noncomputable def o133 (_ : Params) : Obj := fobj 22 (.str (Str.ofString "law_in0216_01") 584) 132
noncomputable def o139 (_ : Params) : Obj := ⟨.type "code", none, .fields #[.str (Str.ofString "_law_behind") 641, .str (Str.ofString "_law_behind") 642, .str (Str.ofString "/claim/cut.py") 643, .int 223 0, .int 3 0, .int 0 0, .int 0 0, .int 3 0, .ref 134, .bool true, .int 276 0, .ref 135, .none, .ref 136, .ref 137, .ref 138, .int 647 0, .int 223 0, .str (Str.ofString "/claim/cut.py") 648], #[]⟩
noncomputable def o140 (_ : Params) : Obj := fobj 23 (.str (Str.ofString "law_in0216_01") 584) 139
noncomputable def o146 (_ : Params) : Obj := ⟨.type "code", none, .fields #[.str (Str.ofString "_law_ahead") 650, .str (Str.ofString "_law_ahead") 651, .str (Str.ofString "/claim/cut.py") 652, .int 229 0, .int 3 0, .int 0 0, .int 0 0, .int 3 0, .ref 141, .bool true, .int 276 0, .ref 142, .none, .ref 143, .ref 144, .ref 145, .int 657 0, .int 229 0, .str (Str.ofString "/claim/cut.py") 658], #[]⟩
noncomputable def o147 (_ : Params) : Obj := fobj 24 (.str (Str.ofString "law_in0216_01") 584) 146
noncomputable def o153 (_ : Params) : Obj := ⟨.type "code", none, .fields #[.str (Str.ofString "_law_rests") 660, .str (Str.ofString "_law_rests") 661, .str (Str.ofString "/claim/cut.py") 662, .int 236 0, .int 5 0, .int 0 0, .int 0 0, .int 3 0, .ref 148, .bool true, .int 276 0, .ref 149, .none, .ref 150, .ref 151, .ref 152, .int 673 0, .int 236 0, .str (Str.ofString "/claim/cut.py") 674], #[]⟩
noncomputable def o154 (_ : Params) : Obj := fobj 25 (.str (Str.ofString "law_in0216_01") 584) 153
noncomputable def o158 (_ : Params) : Obj := ⟨.type "code", none, .fields #[.str (Str.ofString "_law_rounds") 676, .str (Str.ofString "_law_rounds") 677, .str (Str.ofString "/claim/cut.py") 678, .int 247 0, .int 3 0, .int 0 0, .int 0 0, .int 3 0, .ref 155, .bool true, .int 276 0, .ref 156, .none, .none, .none, .ref 157, .int 679 0, .int 247 0, .str (Str.ofString "/claim/cut.py") 680], #[]⟩
noncomputable def o159 (_ : Params) : Obj := fobj 26 (.str (Str.ofString "law_in0216_01") 584) 158
noncomputable def o165 (_ : Params) : Obj := ⟨.type "code", none, .fields #[.str (Str.ofString "_law_readings") 682, .str (Str.ofString "_law_readings") 683, .str (Str.ofString "/claim/cut.py") 684, .int 272 0, .int 3 0, .int 0 0, .int 0 0, .int 3 0, .ref 160, .bool true, .int 276 0, .ref 161, .none, .ref 162, .ref 163, .ref 164, .int 695 0, .int 272 0, .str (Str.ofString "/claim/cut.py") 696], #[]⟩
noncomputable def o166 (_ : Params) : Obj := fobj 27 (.str (Str.ofString "law_in0216_01") 584) 165
noncomputable def o168 (_ : Params) : Obj := ⟨.none, none, .fields #[], #[]⟩
noncomputable def o170 (_ : Params) : Obj := ⟨.type "code", none, .fields #[.str (Str.ofString "_law_right") 698, .str (Str.ofString "_law_right") 699, .str (Str.ofString "/claim/cut.py") 700, .int 284 0, .int 2 0, .int 0 0, .int 0 0, .int 3 0, .ref 167, .bool true, .int 276 0, .ref 168, .none, .none, .none, .ref 169, .int 701 0, .int 284 0, .str (Str.ofString "/claim/cut.py") 702], #[]⟩
noncomputable def o171 (_ : Params) : Obj := fobj 28 (.str (Str.ofString "law_in0216_01") 584) 170
noncomputable def o175 (_ : Params) : Obj := ⟨.type "code", none, .fields #[.str (Str.ofString "law") 704, .str (Str.ofString "law") 705, .str (Str.ofString "/claim/cut.py") 706, .int 317 0, .int 1 0, .int 0 0, .int 0 0, .int 3 0, .ref 172, .bool true, .int 276 0, .ref 173, .none, .none, .none, .ref 174, .int 707 0, .int 317 0, .str (Str.ofString "/claim/cut.py") 708], #[]⟩
noncomputable def o176 (_ : Params) : Obj := fobj 29 (.str (Str.ofString "law_in0216_01") 584) 175
noncomputable def K0 (P : Params) : Frag :=
  (nat_lit 3, o3 P) ::
  (nat_lit 35, o35 P) ::
  (nat_lit 36, o36 P) ::
  (nat_lit 42, o42 P) ::
  (nat_lit 43, o43 P) ::
  (nat_lit 45, o45 P) ::
  (nat_lit 54, o54 P) ::
  (nat_lit 55, o55 P) ::
  (nat_lit 61, o61 P) ::
  (nat_lit 62, o62 P) ::
  (nat_lit 68, o68 P) ::
  (nat_lit 69, o69 P) ::
  (nat_lit 73, o73 P) ::
  (nat_lit 74, o74 P) ::
  (nat_lit 80, o80 P) ::
  (nat_lit 81, o81 P) ::
  (nat_lit 87, o87 P) ::
  (nat_lit 88, o88 P) ::
  (nat_lit 94, o94 P) ::
  (nat_lit 95, o95 P) ::
  (nat_lit 101, o101 P) ::
  (nat_lit 102, o102 P) ::
  (nat_lit 106, o106 P) ::
  (nat_lit 107, o107 P) ::
  (nat_lit 113, o113 P) ::
  (nat_lit 114, o114 P) ::
  (nat_lit 120, o120 P) ::
  (nat_lit 121, o121 P) ::
  (nat_lit 127, o127 P) ::
  (nat_lit 128, o128 P) ::
  (nat_lit 132, o132 P) ::
  (nat_lit 133, o133 P) ::
  (nat_lit 139, o139 P) ::
  (nat_lit 140, o140 P) ::
  (nat_lit 146, o146 P) ::
  (nat_lit 147, o147 P) ::
  (nat_lit 153, o153 P) ::
  (nat_lit 154, o154 P) ::
  (nat_lit 158, o158 P) ::
  (nat_lit 159, o159 P) ::
  (nat_lit 165, o165 P) ::
  (nat_lit 166, o166 P) ::
  (nat_lit 170, o170 P) ::
  (nat_lit 171, o171 P) ::
  (nat_lit 175, o175 P) ::
  (nat_lit 176, o176 P) :: []
noncomputable def as0 : List Addr := nat_lit 3 :: nat_lit 35 :: nat_lit 36 :: nat_lit 42 :: nat_lit 43 :: nat_lit 45 :: nat_lit 54 :: nat_lit 55 :: nat_lit 61 :: nat_lit 62 :: nat_lit 68 :: nat_lit 69 :: nat_lit 73 :: nat_lit 74 :: nat_lit 80 :: nat_lit 81 :: nat_lit 87 :: nat_lit 88 :: nat_lit 94 :: nat_lit 95 :: nat_lit 101 :: nat_lit 102 :: nat_lit 106 :: nat_lit 107 :: nat_lit 113 :: nat_lit 114 :: nat_lit 120 :: nat_lit 121 :: nat_lit 127 :: nat_lit 128 :: nat_lit 132 :: nat_lit 133 :: nat_lit 139 :: nat_lit 140 :: nat_lit 146 :: nat_lit 147 :: nat_lit 153 :: nat_lit 154 :: nat_lit 158 :: nat_lit 159 :: nat_lit 165 :: nat_lit 166 :: nat_lit 170 :: nat_lit 171 :: nat_lit 175 :: nat_lit 176 :: []
theorem as0_eq : ∀ P : Params, as0 = (K0 P).map (·.1) := fun _ => by kernel_rfl
noncomputable def ts0 : List Addr := [57, 168]
noncomputable def H0 : Hook := kmHook K0 as0 as0_eq ts0
end S_HdK
section S_HdL
set_option maxRecDepth 1000000
set_option maxHeartbeats 0
noncomputable abbrev treeQ := Fast.tw14364793385576792824
theorem tree_q : treeTable = treeQ := Fast.te14364793385576792824
noncomputable abbrev impQ := Fast.tw10274390034422433532
theorem imp_q : importEnds = impQ := Fast.te10274390034422433532
noncomputable abbrev runQ := Fast.tw14082659384304107361
theorem run_q : topRun = runQ := Fast.te14082659384304107361
noncomputable abbrev fenceQ := Fast.tw14289696077712309145
theorem fence_q : fenceModules? = fenceQ := Fast.te14289696077712309145
noncomputable abbrev startQ := Fast.tw1435165496053646825
theorem start_q : start = startQ := Fast.te1435165496053646825
noncomputable abbrev mapQ := Fast.tw8920871248978507458
theorem map_q : Heap.nsMap = mapQ := Fast.te8920871248978507458
noncomputable abbrev seenQ := Fast.tw4187177175401517315
theorem seen_q : openSeen = seenQ := Fast.te4187177175401517315
noncomputable def topQ (p : Program) (w : World) (N : Nat) (s₀ : Shared) : Option Shared :=
  match s₀.heap.isNs mainGlobals && s₀.gens.size == 0 with
  | true => (runQ treeQ p w s₀.heap.objs.size (mapQ s₀.heap mainGlobals "__annotations__") N s₀ (topStub p)).bind fun s₁ => match staticsOk (importedModules p.main.body) s₀.heap s₁.heap && namesBound p s₁.heap && gensDone s₁ && laidKept s₀.heap s₁.heap with
      | true => some s₁
      | false => none
  | false => none
theorem top_q (p : Program) (w : World) (N : Nat) : topFrom treeTable p w N = topQ p w N := by
  funext s₀; unfold topFrom topQ; rw [tree_q, run_q, map_q]; rfl
noncomputable def endsQ (p : Program) (w : World) (N : Nat) : Option Shared :=
  ((impQ treeQ (opening p) w N (startQ (opening p)).1 (startQ (opening p)).2).bind (fenceQ p)).bind (topQ p w N)
theorem ends_q (p : Program) (w : World) (N : Nat) : openEnds treeTable p w N = endsQ p w N := by
  unfold openEnds fencedOpening endsQ; rw [top_q, tree_q, imp_q, fence_q, start_q]
noncomputable abbrev right0 (w : World) := some (openGood q0 loose0, ((K0 w.params).map fun p => some p.2, ts0.map fun _ => some (tabObj #[])))
noncomputable abbrev LeftE (w : World) : Prop :=
  (openEnds treeTable P0 w 4310).map (fun s => (openSeen q0 loose0 (importedModules P0.main.body) (fun _ => true) true s, (as0.map s.heap.get?, ts0.map s.heap.get?))) = right0 w
noncomputable abbrev LeftQ (w : World) : Prop :=
  (endsQ P0 w 4310).map (fun s => (seenQ q0 loose0 (importedModules P0.main.body) (fun _ => true) true s, (as0.map s.heap.get?, ts0.map s.heap.get?))) = right0 w
theorem left_q {w : World} (h : LeftQ w) : LeftE w := by
  unfold LeftE; rw [ends_q, seen_q]; exact h
noncomputable abbrev rw2 (w : World) (a b : Bool) : World := (w.withFollow "special-get-raises" a).withFollow "comprehension-iter-twice" b
theorem left00 : ∀ w, LeftE (rw2 w false false) := fun w => left_q (by kernel_rfl)
theorem left01 : ∀ w, LeftE (rw2 w true false) := fun w => left_q (by kernel_rfl)
theorem left10 : ∀ w, LeftE (rw2 w false true) := fun w => left_q (by kernel_rfl)
theorem left11 : ∀ w, LeftE (rw2 w true true) := fun w => left_q (by kernel_rfl)
theorem left : LeftO P0 q0 loose0 (fun _ => true) H0.obs H0.val 4310 true :=
  byRow2 (P := LeftE) "comprehension-iter-twice"
    (byRow2 (P := fun w => LeftE (w.withFollow "comprehension-iter-twice" false)) "special-get-raises" left00 left01)
    (byRow2 (P := fun w => LeftE (w.withFollow "comprehension-iter-twice" true)) "special-get-raises" left10 left11)
end S_HdL
section S_HdT
set_option maxRecDepth 1000000
set_option maxHeartbeats 0
noncomputable abbrev rw0 : OpenLaw := PySem.Challenge.rw_in0216_01
theorem look0 : Fast.tw12908688711261696721 P0 = true := by kernel_rfl
theorem part0 : Fast.tw2436336058641802641 rw0.row = true := by
  delta PySem.W.Fast.tw2436336058641802641
  repeat' with_reducible refine look_both ?_ ?_
  exact look0
  all_goals kernel_rfl
theorem said0 : rw0.wellSaid = true := by
  refine (congrFun Fast.te9446332074065402090 rw0).trans ?_
  delta PySem.W.Fast.tw9446332074065402090
  repeat' with_reducible refine look_both ?_ ?_
  delta PySem.W.Fast.tw17960256430627541270
  repeat' with_reducible refine look_both ?_ ?_
  exact part0
  all_goals kernel_rfl
noncomputable def d0 : DefRec := ⟨fdName (stm 29), fdArgs (stm 29), fdBody (stm 29), fdScope (stm 29), ⟨317, 0, 322, 69⟩⟩
theorem def0 : defOf q0 "law" = some (d0, []) := by kernel_rfl
theorem def1 : P0.theDef "law" = some (d0.params, d0.body, d0.scope) := by kernel_rfl
theorem def2 : kwWritten? d0.params.kwonlyargs d0.params.kw_defaults = some [] := by kernel_rfl
theorem ok0 : (chainsOk q0 && opensWell P0 && (frees rw0.row.toRowW && rw0.row.toRowW.within.isEmpty)) = true := by kernel_rfl
theorem prom0 : rw0.row.toRowW.promised := ⟨[.list []], by kernel_rfl, by kernel_rfl⟩
theorem tab0 : P0.tablesWhole = true := by kernel_rfl
theorem hd (walk : WalkO q0 loose0 (fun _ _ => True ∧ True) H0.says rw0.row.toRowW d0 [] (fun f vs => PySem.call f vs)) : rw0.Holds :=
  holds_law said0 fun said => holds_open (r := rw0.row) (q := q0) (loose := loose0) (Xt := fun _ => true) (XP := fun _ _ => True ∧ True) (Yf := H0.obs) (Ya := H0.val) (YP := H0.says) (d := d0) (kwd := []) (N := 4310)
    left H0.of H0.keeps (fun _ _ => ⟨trivial, trivial⟩) (fun _ _ _ _ _ => ⟨trivial, trivial⟩) def0 def1 def2 (fun _ _ => recFacts_nil rfl) rfl said ok0 ⟨rfl, rfl, rfl, rfl, rfl, tab0⟩ prom0 walk
end S_HdT
section S_Ct
set_option maxRecDepth 100000
noncomputable abbrev Led := List (Addr × Obj)
noncomputable def Fn (w : World) (d : Nat) (f : Addr) (vs : List Value) (news : Led) (Post : Value → Led → Prop) : Prop :=
  ∀ (p : Program) (loose : List PySem.Str) (mean : ExcName → Option Value) (mg mb : PySem.Str → Option Value) (dp un : Nat) (gd : Option (List Code)) (cn : PySem.Str) (cs : Scope) (a : Addr) (ccd : Value) (cl : List (PySem.Str × Addr)) (outer : List Env) (A₀ : Around) (base h₀ : Heap) (L : Addr) (m : PySem.Str → Option Value) (s : Shared) (Q E : Value → Shared → Prop),
    Below A₀ base outer h₀ → Fr h₀ L s.heap m → (K0 w.params).In h₀ → News h₀ L s.heap news → Top p loose mean mg mb h₀ → CodeHd h₀ 61 57 → CodeHd h₀ 170 168 → cs.kind = .function → dp < d → un < 8 * d →
    (∀ r news' h' tk', Fr h₀ L h' m → News h₀ L h' news' → Post r news' → Q r { s with heap := h', toks := tk' }) →
    wpAny (model P0 w) (ktrTop dp un gd cn cs L a ccd cl outer) (call (.ref f) vs) Q E s
theorem fn_use {w : World} {d : Nat} {f : Addr} {vs : List Value} {news : Led} {Post : Value → Led → Prop} {p : Program} {loose : List PySem.Str} {mean : ExcName → Option Value} {mg mb : PySem.Str → Option Value} {dp un : Nat} {gd : Option (List Code)} {cn : PySem.Str} {cs : Scope} {a : Addr} {ccd : Value} {cl : List (PySem.Str × Addr)} {outer : List Env} {A₀ : Around} {base h₀ : Heap} {L : Addr} {m : PySem.Str → Option Value} {s : Shared} {Q E : Value → Shared → Prop}
    (C : Fn w d f vs news Post) (B : Below A₀ base outer h₀) (F : Fr h₀ L s.heap m) (X : (K0 w.params).In h₀) (N : News h₀ L s.heap news) (T : Top p loose mean mg mb h₀) (C1 : CodeHd h₀ 61 57) (C2 : CodeHd h₀ 170 168) (hk : cs.kind = .function) (hd : dp < d) (hu : un < 8 * d)
    (ret : ∀ r news' h' tk', Fr h₀ L h' m → News h₀ L h' news' → Post r news' → Q r { s with heap := h', toks := tk' }) :
    wpAny (model P0 w) (ktrTop dp un gd cn cs L a ccd cl outer) (call (.ref f) vs) Q E s := C _ _ _ _ _ _ _ _ _ _ _ _ _ _ _ _ _ _ _ _ _ _ B F X N T C1 C2 hk hd hu ret
section
variable {prog : Program} {w : World} {A A₀ : Around} {s : Shared} {h₀ base : Heap} {m : PySem.Str → Option Value} {news : Led} {L : Addr}
theorem code_my {p : Program} {loose : List PySem.Str} {mean : ExcName → Option Value} {mg mb : PySem.Str → Option Value} {env : Env} {outer : List Env} {R : Result → Shared → Prop} {i : Nat} {pm : Value} {c : Addr} {f : Addr} {args : Args} {binds : List (PySem.Str × Value)}
    {st : Stmt} {rest : List Stmt} {nm bd : PySem.Str} {ar : Arguments} {sc : Scope} {dl : List Expr} {rt : Option Expr} {tps : List TypeParam} {tsc : Option Scope} {ps : Pos}
    (B : Below A₀ base outer h₀) (F : Fr h₀ L s.heap m) (X₀ : (K0 w.params).In h₀) (N : News h₀ L s.heap news) (T : Top p loose mean mg mb h₀) (C1 : CodeHd h₀ 61 57) (C2 : CodeHd h₀ 170 168) (hA : A.frames = some (env :: outer)) (hf : env.frame = some L) (hke : env.scope.kind = .function)
    (ho : (K0 w.params).lookup f = some (fobj i pm c)) (est : stm i = .FunctionDef nm ar (st :: rest) dl rt tps sc tsc bd ps) (hcd : codeIn (K0 w.params) (.ref c) nm = true) (hroom : A.depth < recursionLimit)
    (hbind : BindsTo s (fnOf nm nm ar (st :: rest) sc .none .none .none pm none (.ref c) .none) args binds.reverse) (hloc : ∀ y ∈ binds.reverse, sc.names.lookup y.1 = some .local)
    (h : ∀ g L' h₁ tk₁, Fr h₀ L g m → Fr g L' h₁ (fun y => binds.lookup y) → News g L' h₁ news → Below A base (env :: outer) g → (K0 w.params).In g → Top p loose mean mg mb g → CodeHd g 61 57 → CodeHd g 170 168 → (∀ q ∈ news, q.1 < L') →
      wpAny (model prog w) (A.deeper (envOf nm sc L' f (.ref c))) (execs (st :: rest) (envOf nm sc L' f (.ref c)))
        (fun fl s' => LeaveK h₀ L m g R (match fl with | .ret v => v | _ => .none) s')
        (fun e s' => wpAny (model prog w) (A.deeper (envOf nm sc L' f (.ref c))) (leaving (envOf nm sc L' f (.ref c)) e) (fun _ s'' => R (.error e) s'') (fun e' s'' => R (.error e') s'') s')
        { s with heap := h₁, toks := tk₁ })
    (hco : sc.isCoroutine = false) (hgen : sc.isGenerator = false) (hk : sc.kind = .function)
    (hcell : ∀ x ∈ sc.names, x.2 ≠ .cell) : codeAny (model prog w) A (.call (.ref f) args) R s := by
  unfold fobj at ho
  rw [est] at ho
  exact callX_plain (cl := []) B F N T.nolimit hA hf hke ((X₀.keeps F.keep) _ _ ho) rfl (codeRec_of (X₀.keeps F.keep) hcd) hroom hbind hloc (fun g L' h₁ FG F' N' B' st lt => h g L' h₁ _ FG (by simpa using F') N' B' (X₀.keeps st) (T.keeps st) (C1.keeps st) (C2.keeps st) lt) hcell hco hgen hk
end
theorem leave_my {h₀ g : Heap} {L L' : Addr} {m m' : PySem.Str → Option Value} {news' : Led} {R : Result → Shared → Prop} {v : Value} {s' : Shared} (F' : Fr g L' s'.heap m') (N' : News g L' s'.heap news')
    (k : Fr h₀ L s'.heap m → News h₀ L s'.heap news' → R (.ok (.ret v)) s') : LeaveK h₀ L m g R v s' := ⟨L', m', news', F', N', k⟩
theorem fn_in {w : World} {d : Nat} {f : Addr} {vs : List Value} {news : Led} {Post : Value → Led → Prop}
  (h : ∀ (p : Program) (loose : List PySem.Str) (mean : ExcName → Option Value) (mg mb : PySem.Str → Option Value) (dp un : Nat) (gd : Option (List Code)) (cn : PySem.Str) (cs : Scope) (a : Addr) (ccd : Value) (cl : List (PySem.Str × Addr)) (outer : List Env) (A₀ : Around) (base h₀ : Heap) (L : Addr) (m : PySem.Str → Option Value) (sh : Heap) (sg : Array GenState) (sd : Drawn) (st9 : Nat) (so : OsState) (Q E : Value → Shared → Prop),
    Below A₀ base outer h₀ → Fr h₀ L sh m → (K0 w.params).In h₀ → News h₀ L sh news → Top p loose mean mg mb h₀ → CodeHd h₀ 61 57 → CodeHd h₀ 170 168 → cs.kind = .function → dp < d → un < 8 * d →
    (∀ r news' h' tk', Fr h₀ L h' m → News h₀ L h' news' → Post r news' → Q r ⟨h', sg, sd, tk', so⟩) →
    codeAny (model P0 w) (ktrTop dp un gd cn cs L a ccd cl outer) (.call (.ref f) ⟨vs, []⟩) (fun r s' => match r with | .ok (.ret v) => Q v s' | .ok _ => False | .error e => E e s') ⟨sh, sg, sd, st9, so⟩) : Fn w d f vs news Post := by
  intro p loose mean mg mb dp un gd cn cs a ccd cl outer A₀ base h₀ L m s Q E B F X N T C1 C2 hk hd hu hret
  exact wpAny_call (h p loose mean mg mb dp un gd cn cs a ccd cl outer A₀ base h₀ L m s.heap s.gens s.drawn s.toks s.os Q E B F X N T C1 C2 hk hd hu hret)
inductive NoLia : Prop
  | mk
end S_Ct
example : (K0 = K0) → PySem.Challenge.rw_in0216_01 = PySem.Challenge.rw_in0216_01 → True := by k_fill; intros; trivial
local macro_rules | `(tactic| walk_at $s:str) => `(tactic| first | with_reducible (k_extra $s) | k_dflt (k_extra $s))
local macro_rules | `(tactic| size_fits) => `(tactic| k_extra "sz")
local macro_rules | `(tactic| omega) => `(tactic| ((fail_if_success (with_reducible rename NoLia => nl)); lia))
example : True := by
  k_with "eval Name" => ((fail_if_success (with_reducible show wpAny _ _ (eval (Expr.Name _ _) (compEnvC _ _ _ _)) _ _ _)); k_here; (first | (refine' nameX_L ?jF ?jv ?_ ?ja ?jb; (case jF => k_asm); (case ja => rfl); (case jb => rfl); (case jv => rfl); k_whole) | (refine' nameX_K ?jF ?jX ?jT ?je ?_ ?ja ?jb; (case jF => k_asm); (case jX => k_asm); (case jT => k_asm); (case ja => rfl); (case jb => rfl); (case je => k_is); k_whole) | (refine' nameX_C ?jN ?jc ?jm ?jd ?_ ?ja ?jb; (case ja => rfl); (case jb => rfl); (case jN => k_asm); (case jc => rfl); (case jm => k_mem); (case jd => k_asm); k_whole) | (refine' nameX_B ?jF ?jX ?jT ?je ?jv ?jn ?_ ?ja ?jb; (case jF => k_asm); (case jX => k_asm); (case jT => k_asm); (case ja => rfl); (case jb => rfl); (case je => k_is); (case jv => boot_fast); (case jn => decide); k_whole)))
  k_with "callWith ref" => (k_here; refine' callWith_K ?k1 ?k2 ?_; (case k1 => k_asm); (case k2 => k_is); k_whole)
  k_with "sz" => (first | exact le_sizeLine (Nat.le_trans (by with_reducible assumption) (by decide)) | exact Nat.le_of_ble_eq_true rfl)
  k_with "exec If" => (refine wpAny_If ?_)
  k_with "subscriptTail Name Constant str int" => (refine item_str (by decide) (by pv_in_text) (by pv_in_text) ?_; intro _)
  k_with "subscriptTail Name Constant ref int" => (k_extra "subscriptTail")
  k_with "subscriptTail Name Name ref int" => (k_extra "subscriptTail")
  k_with "subscriptTail Name UnaryOp ref int" => (k_extra "subscriptTail")
  k_with "subscriptTail Name BinOp ref int" => (k_extra "subscriptTail")
  k_with "subscriptTail Name Name ref str" => (k_extra "subscriptTail")
  trivial
section S_Ne
theorem lkQ {a : Value} {b : PySem.Str} {r} (h : Fast.tw1381439984260040727 a b = r) : typeLookup a b = r := (congrFun (congrFun Fast.te1381439984260040727 _) _).trans h
theorem subQ {a b : Value} {r} (h : Fast.tw16098473122060591676 a b = r) : isSubtype a b = r := (congrFun (congrFun Fast.te16098473122060591676 _) _).trans h
theorem argQ {i : String} {as : Args} (h : (match Fast.signatureY i with | some g => Fast.tw16078263539434579649 i g as | none => pure ()) = pure ()) : argsOk i as := by
  unfold argsOk; rw [Fast.signatureY_eq, Fast.te16078263539434579649]; exact h
theorem kindQ {o n : String} {k} (h : (Fast.findY o).bind (·.attrs.lookup n) = some k) : (Manifest.find? o).bind (·.attrs.lookup n) = some k := by rw [Fast.findY_eq]; exact h
theorem canQ {g x : String} {b} (h : (Fast.canonicalY g != x) = b) : (Manifest.canonical g != x) = b := by rw [Fast.canonicalY_eq]; exact h
theorem le_sizeLine {n : Nat} (h : n ≤ 16000000) : n ≤ sizeLine := by rw [sizeLine_eq]; omega
theorem dep1 {a b c n : Nat} (h : a < b) (k : b + n ≤ c) : a + n < c := Nat.lt_of_lt_of_le (Nat.add_lt_add_right h n) k
section
variable {a b : Nat} {A B C D X : Prop}
theorem cjl1 (h : a < b ∧ X) : a ≠ b := Nat.ne_of_lt h.1
theorem cjl2 (h : A ∧ a < b ∧ X) : a ≠ b := Nat.ne_of_lt h.2.1
theorem cjl3 (h : A ∧ B ∧ a < b ∧ X) : a ≠ b := Nat.ne_of_lt h.2.2.1
theorem cjl4 (h : A ∧ B ∧ C ∧ a < b ∧ X) : a ≠ b := Nat.ne_of_lt h.2.2.2.1
theorem cjl5 (h : A ∧ B ∧ C ∧ D ∧ a < b ∧ X) : a ≠ b := Nat.ne_of_lt h.2.2.2.2.1
theorem cje2 (h : A ∧ a < b) : a ≠ b := Nat.ne_of_lt h.2
theorem cje3 (h : A ∧ B ∧ a < b) : a ≠ b := Nat.ne_of_lt h.2.2
theorem cje4 (h : A ∧ B ∧ C ∧ a < b) : a ≠ b := Nat.ne_of_lt h.2.2.2
theorem cje5 (h : A ∧ B ∧ C ∧ D ∧ a < b) : a ≠ b := Nat.ne_of_lt h.2.2.2.2
theorem ne_ll {c : Nat} (h : a < c) (k : c < b) : a ≠ b := Nat.ne_of_lt (Nat.lt_trans h k)
end
theorem s1_ne {a b : Nat} (h : a < b) : a ≠ b + 1 := Nat.ne_of_lt (Nat.lt_succ_of_lt h)
theorem s2_ne {a b : Nat} (h : a < b) : a ≠ b + 1 + 1 := Nat.ne_of_lt (Nat.lt_succ_of_lt (Nat.lt_succ_of_lt h))
theorem s3_ne {a b : Nat} (h : a < b) : a ≠ b + 1 + 1 + 1 := Nat.ne_of_lt (Nat.lt_succ_of_lt (Nat.lt_succ_of_lt (Nat.lt_succ_of_lt h)))
theorem s4_ne {a b : Nat} (h : a < b) : a ≠ b + 1 + 1 + 1 + 1 := Nat.ne_of_lt (Nat.lt_succ_of_lt (Nat.lt_succ_of_lt (Nat.lt_succ_of_lt (Nat.lt_succ_of_lt h))))
theorem n1_ne (a : Nat) : a ≠ a + 1 := Nat.ne_of_lt (Nat.lt_succ_self _)
theorem n2_ne (a : Nat) : a ≠ a + 1 + 1 := s1_ne (Nat.lt_succ_self _)
theorem n3_ne (a : Nat) : a ≠ a + 1 + 1 + 1 := s2_ne (Nat.lt_succ_self _)
noncomputable def QUp (P Q : Flow → Shared → Prop) : Prop := ∀ f s, P f s → Q f s
theorem QUp.up {P Q : Flow → Shared → Prop} (h : QUp P Q) {f : Flow} {s : Shared} (hp : P f s) : Q f s := h f s hp
theorem QUp.rfl' {P : Flow → Shared → Prop} : QUp P P := fun _ _ h => h
end S_Ne
section S_Pk
@[irreducible] noncomputable def pick {α : Type} (_ : Nonempty α) (P : α → Prop) : α := @Classical.epsilon α ‹_› (fun x => ¬ P x)
theorem pick_all {α : Type} (n : Nonempty α) {P : α → Prop} (h : P (pick n P)) (x : α) : P x := by
  unfold pick at h
  exact Classical.byContradiction fun k => (@Classical.epsilon_spec α (fun x => ¬ P x) ⟨x, k⟩) h
noncomputable def W0 : World := { draws := fun _ _ => 0, params := { strHash := fun _ => 0, shareClass := fun _ => 0, mergeTok := fun t => t, idOf := fun _ => 0, idOfShared := fun _ _ => 0, followText := fun _ => false, idOfImm := fun _ => 0 } }
structure EV where
  g : Heap
  l : Addr
  h : Heap
  t : Nat
theorem evne : Nonempty EV := ⟨⟨default, default, default, default⟩⟩
noncomputable def FnG (w : World) (d : Nat) (f : Addr) (vs : List Value) (news : Led) (Post : Value → Led → Prop) (p : Program) (loose : List PySem.Str) (mean : ExcName → Option Value) (mg mb : PySem.Str → Option Value) (dp un : Nat) (gd : Option (List Code)) (cn : PySem.Str) (cs : Scope) (a : Addr) (ccd : Value) (cl : List (PySem.Str × Addr)) (outer : List Env) (A₀ : Around) (base h₀ : Heap) (L : Addr) (m : PySem.Str → Option Value) (s : Shared) (Q E : Value → Shared → Prop) : Prop :=
    Below A₀ base outer h₀ → Fr h₀ L s.heap m → (K0 w.params).In h₀ → News h₀ L s.heap news → Top p loose mean mg mb h₀ → CodeHd h₀ 61 57 → CodeHd h₀ 170 168 → cs.kind = .function → dp < d → un < 8 * d →
    (∀ r news' h' tk', Fr h₀ L h' m → News h₀ L h' news' → Post r news' → Q r { s with heap := h', toks := tk' }) →
    wpAny (model P0 w) (ktrTop dp un gd cn cs L a ccd cl outer) (call (.ref f) vs) Q E s
noncomputable def BodyH (w : World) (f c : Addr) (i : Nat) (binds : List (PySem.Str × Value)) (news : Led) (p : Program) (loose : List PySem.Str) (mean : ExcName → Option Value) (mg mb : PySem.Str → Option Value) (dp un : Nat) (gd : Option (List Code)) (cn : PySem.Str) (cs : Scope) (a : Addr) (ccd : Value) (cl : List (PySem.Str × Addr)) (outer : List Env) (base h₀ : Heap) (L : Addr) (m : PySem.Str → Option Value) (s : Shared) (Q E : Value → Shared → Prop)
    {st : Stmt} {rest : List Stmt} {nm bd : PySem.Str} {ar : Arguments} {sc : Scope} {dl : List Expr} {rt : Option Expr} {tps : List TypeParam} {tsc : Option Scope} {ps : Pos} (_ : stm i = .FunctionDef nm ar (st :: rest) dl rt tps sc tsc bd ps) (g : Heap) (L' : Addr) (h₁ : Heap) (tk₁ : Nat) : Prop :=
  Fr g L' h₁ (fun y => binds.lookup y) → News g L' h₁ news → Below (ktrTop dp un gd cn cs L a ccd cl outer) base (envX cn cs L a ccd cl :: outer) g → (K0 w.params).In g → Top p loose mean mg mb g → CodeHd g 61 57 → CodeHd g 170 168 → (∀ q ∈ news, q.1 < L') →
      wpAny (model P0 w) ((ktrTop dp un gd cn cs L a ccd cl outer).deeper (envOf nm sc L' f (.ref c))) (execs (st :: rest) (envOf nm sc L' f (.ref c)))
        (fun fl s' => LeaveK h₀ L m g (fun r s' => match r with | .ok (.ret v) => Q v s' | .ok _ => False | .error e => E e s') (match fl with | .ret v => v | _ => .none) s')
        (fun e s' => wpAny (model P0 w) ((ktrTop dp un gd cn cs L a ccd cl outer).deeper (envOf nm sc L' f (.ref c))) (leaving (envOf nm sc L' f (.ref c)) e) (fun _ s'' => E e s'') (fun e' s'' => E e' s'') s')
        ⟨h₁, s.gens, s.drawn, tk₁, s.os⟩
noncomputable def FD0 : FuncData := fnOf (fdName (stm 8)) (fdName (stm 8)) (fdArgs (stm 8)) (fdBody (stm 8)) (fdScope (stm 8)) .none .none .none .none none (.ref 61) .none
end S_Pk
section S_Cl
inductive Clo : Prop
  | mk
section
variable {α1 : Type} (n : Nonempty (α1)) (P : α1 → Prop)
@[irreducible] noncomputable def cl1_1 : α1 := (pick n (fun e => P e))
variable {P} [n : Nonempty (α1)]
theorem cl1 (h : P (cl1_1 n P)) : ∀ x1, P x1 := by
  unfold cl1_1 at h
  intro x1
  exact pick_all n (P := fun e => P e) h x1
end
section
variable {α1 α2 : Type} (n : Nonempty (α1 × α2)) (P : α1 → α2 → Prop)
@[irreducible] noncomputable def cl2_1 : α1 := (pick n (fun e => P e.1 e.2)).1
@[irreducible] noncomputable def cl2_2 : α2 := (pick n (fun e => P e.1 e.2)).2
variable {P} [n : Nonempty (α1 × α2)]
theorem cl2 (h : P (cl2_1 n P) (cl2_2 n P)) : ∀ x1 x2, P x1 x2 := by
  unfold cl2_1 cl2_2 at h
  intro x1 x2
  exact pick_all n (P := fun e => P e.1 e.2) h (x1, x2)
end
section
variable {α1 α2 α3 : Type} (n : Nonempty (α1 × α2 × α3)) (P : α1 → α2 → α3 → Prop)
@[irreducible] noncomputable def cl3_1 : α1 := (pick n (fun e => P e.1 e.2.1 e.2.2)).1
@[irreducible] noncomputable def cl3_2 : α2 := (pick n (fun e => P e.1 e.2.1 e.2.2)).2.1
@[irreducible] noncomputable def cl3_3 : α3 := (pick n (fun e => P e.1 e.2.1 e.2.2)).2.2
variable {P} [n : Nonempty (α1 × α2 × α3)]
theorem cl3 (h : P (cl3_1 n P) (cl3_2 n P) (cl3_3 n P)) : ∀ x1 x2 x3, P x1 x2 x3 := by
  unfold cl3_1 cl3_2 cl3_3 at h
  intro x1 x2 x3
  exact pick_all n (P := fun e => P e.1 e.2.1 e.2.2) h (x1, x2, x3)
end
section
variable {α1 α2 α3 α4 : Type} (n : Nonempty (α1 × α2 × α3 × α4)) (P : α1 → α2 → α3 → α4 → Prop)
@[irreducible] noncomputable def cl4_1 : α1 := (pick n (fun e => P e.1 e.2.1 e.2.2.1 e.2.2.2)).1
@[irreducible] noncomputable def cl4_2 : α2 := (pick n (fun e => P e.1 e.2.1 e.2.2.1 e.2.2.2)).2.1
@[irreducible] noncomputable def cl4_3 : α3 := (pick n (fun e => P e.1 e.2.1 e.2.2.1 e.2.2.2)).2.2.1
@[irreducible] noncomputable def cl4_4 : α4 := (pick n (fun e => P e.1 e.2.1 e.2.2.1 e.2.2.2)).2.2.2
variable {P} [n : Nonempty (α1 × α2 × α3 × α4)]
theorem cl4 (h : P (cl4_1 n P) (cl4_2 n P) (cl4_3 n P) (cl4_4 n P)) : ∀ x1 x2 x3 x4, P x1 x2 x3 x4 := by
  unfold cl4_1 cl4_2 cl4_3 cl4_4 at h
  intro x1 x2 x3 x4
  exact pick_all n (P := fun e => P e.1 e.2.1 e.2.2.1 e.2.2.2) h (x1, x2, x3, x4)
end
section
variable {α1 α2 α3 α4 α5 : Type} (n : Nonempty (α1 × α2 × α3 × α4 × α5)) (P : α1 → α2 → α3 → α4 → α5 → Prop)
@[irreducible] noncomputable def cl5_1 : α1 := (pick n (fun e => P e.1 e.2.1 e.2.2.1 e.2.2.2.1 e.2.2.2.2)).1
@[irreducible] noncomputable def cl5_2 : α2 := (pick n (fun e => P e.1 e.2.1 e.2.2.1 e.2.2.2.1 e.2.2.2.2)).2.1
@[irreducible] noncomputable def cl5_3 : α3 := (pick n (fun e => P e.1 e.2.1 e.2.2.1 e.2.2.2.1 e.2.2.2.2)).2.2.1
@[irreducible] noncomputable def cl5_4 : α4 := (pick n (fun e => P e.1 e.2.1 e.2.2.1 e.2.2.2.1 e.2.2.2.2)).2.2.2.1
@[irreducible] noncomputable def cl5_5 : α5 := (pick n (fun e => P e.1 e.2.1 e.2.2.1 e.2.2.2.1 e.2.2.2.2)).2.2.2.2
variable {P} [n : Nonempty (α1 × α2 × α3 × α4 × α5)]
theorem cl5 (h : P (cl5_1 n P) (cl5_2 n P) (cl5_3 n P) (cl5_4 n P) (cl5_5 n P)) : ∀ x1 x2 x3 x4 x5, P x1 x2 x3 x4 x5 := by
  unfold cl5_1 cl5_2 cl5_3 cl5_4 cl5_5 at h
  intro x1 x2 x3 x4 x5
  exact pick_all n (P := fun e => P e.1 e.2.1 e.2.2.1 e.2.2.2.1 e.2.2.2.2) h (x1, x2, x3, x4, x5)
end
section
variable {α1 α2 α3 α4 α5 α6 : Type} (n : Nonempty (α1 × α2 × α3 × α4 × α5 × α6)) (P : α1 → α2 → α3 → α4 → α5 → α6 → Prop)
@[irreducible] noncomputable def cl6_1 : α1 := (pick n (fun e => P e.1 e.2.1 e.2.2.1 e.2.2.2.1 e.2.2.2.2.1 e.2.2.2.2.2)).1
@[irreducible] noncomputable def cl6_2 : α2 := (pick n (fun e => P e.1 e.2.1 e.2.2.1 e.2.2.2.1 e.2.2.2.2.1 e.2.2.2.2.2)).2.1
@[irreducible] noncomputable def cl6_3 : α3 := (pick n (fun e => P e.1 e.2.1 e.2.2.1 e.2.2.2.1 e.2.2.2.2.1 e.2.2.2.2.2)).2.2.1
@[irreducible] noncomputable def cl6_4 : α4 := (pick n (fun e => P e.1 e.2.1 e.2.2.1 e.2.2.2.1 e.2.2.2.2.1 e.2.2.2.2.2)).2.2.2.1
@[irreducible] noncomputable def cl6_5 : α5 := (pick n (fun e => P e.1 e.2.1 e.2.2.1 e.2.2.2.1 e.2.2.2.2.1 e.2.2.2.2.2)).2.2.2.2.1
@[irreducible] noncomputable def cl6_6 : α6 := (pick n (fun e => P e.1 e.2.1 e.2.2.1 e.2.2.2.1 e.2.2.2.2.1 e.2.2.2.2.2)).2.2.2.2.2
variable {P} [n : Nonempty (α1 × α2 × α3 × α4 × α5 × α6)]
theorem cl6 (h : P (cl6_1 n P) (cl6_2 n P) (cl6_3 n P) (cl6_4 n P) (cl6_5 n P) (cl6_6 n P)) : ∀ x1 x2 x3 x4 x5 x6, P x1 x2 x3 x4 x5 x6 := by
  unfold cl6_1 cl6_2 cl6_3 cl6_4 cl6_5 cl6_6 at h
  intro x1 x2 x3 x4 x5 x6
  exact pick_all n (P := fun e => P e.1 e.2.1 e.2.2.1 e.2.2.2.1 e.2.2.2.2.1 e.2.2.2.2.2) h (x1, x2, x3, x4, x5, x6)
end
section
variable {α1 α2 α3 α4 α5 α6 α7 α8 α9 : Type} (n : Nonempty (α1 × α2 × α3 × α4 × α5 × α6 × α7 × α8 × α9)) (P : α1 → α2 → α3 → α4 → α5 → α6 → α7 → α8 → α9 → Prop)
@[irreducible] noncomputable def cl9_1 : α1 := (pick n (fun e => P e.1 e.2.1 e.2.2.1 e.2.2.2.1 e.2.2.2.2.1 e.2.2.2.2.2.1 e.2.2.2.2.2.2.1 e.2.2.2.2.2.2.2.1 e.2.2.2.2.2.2.2.2)).1
@[irreducible] noncomputable def cl9_2 : α2 := (pick n (fun e => P e.1 e.2.1 e.2.2.1 e.2.2.2.1 e.2.2.2.2.1 e.2.2.2.2.2.1 e.2.2.2.2.2.2.1 e.2.2.2.2.2.2.2.1 e.2.2.2.2.2.2.2.2)).2.1
@[irreducible] noncomputable def cl9_3 : α3 := (pick n (fun e => P e.1 e.2.1 e.2.2.1 e.2.2.2.1 e.2.2.2.2.1 e.2.2.2.2.2.1 e.2.2.2.2.2.2.1 e.2.2.2.2.2.2.2.1 e.2.2.2.2.2.2.2.2)).2.2.1
@[irreducible] noncomputable def cl9_4 : α4 := (pick n (fun e => P e.1 e.2.1 e.2.2.1 e.2.2.2.1 e.2.2.2.2.1 e.2.2.2.2.2.1 e.2.2.2.2.2.2.1 e.2.2.2.2.2.2.2.1 e.2.2.2.2.2.2.2.2)).2.2.2.1
@[irreducible] noncomputable def cl9_5 : α5 := (pick n (fun e => P e.1 e.2.1 e.2.2.1 e.2.2.2.1 e.2.2.2.2.1 e.2.2.2.2.2.1 e.2.2.2.2.2.2.1 e.2.2.2.2.2.2.2.1 e.2.2.2.2.2.2.2.2)).2.2.2.2.1
@[irreducible] noncomputable def cl9_6 : α6 := (pick n (fun e => P e.1 e.2.1 e.2.2.1 e.2.2.2.1 e.2.2.2.2.1 e.2.2.2.2.2.1 e.2.2.2.2.2.2.1 e.2.2.2.2.2.2.2.1 e.2.2.2.2.2.2.2.2)).2.2.2.2.2.1
@[irreducible] noncomputable def cl9_7 : α7 := (pick n (fun e => P e.1 e.2.1 e.2.2.1 e.2.2.2.1 e.2.2.2.2.1 e.2.2.2.2.2.1 e.2.2.2.2.2.2.1 e.2.2.2.2.2.2.2.1 e.2.2.2.2.2.2.2.2)).2.2.2.2.2.2.1
@[irreducible] noncomputable def cl9_8 : α8 := (pick n (fun e => P e.1 e.2.1 e.2.2.1 e.2.2.2.1 e.2.2.2.2.1 e.2.2.2.2.2.1 e.2.2.2.2.2.2.1 e.2.2.2.2.2.2.2.1 e.2.2.2.2.2.2.2.2)).2.2.2.2.2.2.2.1
@[irreducible] noncomputable def cl9_9 : α9 := (pick n (fun e => P e.1 e.2.1 e.2.2.1 e.2.2.2.1 e.2.2.2.2.1 e.2.2.2.2.2.1 e.2.2.2.2.2.2.1 e.2.2.2.2.2.2.2.1 e.2.2.2.2.2.2.2.2)).2.2.2.2.2.2.2.2
variable {P} [n : Nonempty (α1 × α2 × α3 × α4 × α5 × α6 × α7 × α8 × α9)]
theorem cl9 (h : P (cl9_1 n P) (cl9_2 n P) (cl9_3 n P) (cl9_4 n P) (cl9_5 n P) (cl9_6 n P) (cl9_7 n P) (cl9_8 n P) (cl9_9 n P)) : ∀ x1 x2 x3 x4 x5 x6 x7 x8 x9, P x1 x2 x3 x4 x5 x6 x7 x8 x9 := by
  unfold cl9_1 cl9_2 cl9_3 cl9_4 cl9_5 cl9_6 cl9_7 cl9_8 cl9_9 at h
  intro x1 x2 x3 x4 x5 x6 x7 x8 x9
  exact pick_all n (P := fun e => P e.1 e.2.1 e.2.2.1 e.2.2.2.1 e.2.2.2.2.1 e.2.2.2.2.2.1 e.2.2.2.2.2.2.1 e.2.2.2.2.2.2.2.1 e.2.2.2.2.2.2.2.2) h (x1, x2, x3, x4, x5, x6, x7, x8, x9)
end
section
variable {α1 α2 α3 α4 α5 α6 α7 α8 α9 α10 : Type} (n : Nonempty (α1 × α2 × α3 × α4 × α5 × α6 × α7 × α8 × α9 × α10)) (P : α1 → α2 → α3 → α4 → α5 → α6 → α7 → α8 → α9 → α10 → Prop)
@[irreducible] noncomputable def cl10_1 : α1 := (pick n (fun e => P e.1 e.2.1 e.2.2.1 e.2.2.2.1 e.2.2.2.2.1 e.2.2.2.2.2.1 e.2.2.2.2.2.2.1 e.2.2.2.2.2.2.2.1 e.2.2.2.2.2.2.2.2.1 e.2.2.2.2.2.2.2.2.2)).1
@[irreducible] noncomputable def cl10_2 : α2 := (pick n (fun e => P e.1 e.2.1 e.2.2.1 e.2.2.2.1 e.2.2.2.2.1 e.2.2.2.2.2.1 e.2.2.2.2.2.2.1 e.2.2.2.2.2.2.2.1 e.2.2.2.2.2.2.2.2.1 e.2.2.2.2.2.2.2.2.2)).2.1
@[irreducible] noncomputable def cl10_3 : α3 := (pick n (fun e => P e.1 e.2.1 e.2.2.1 e.2.2.2.1 e.2.2.2.2.1 e.2.2.2.2.2.1 e.2.2.2.2.2.2.1 e.2.2.2.2.2.2.2.1 e.2.2.2.2.2.2.2.2.1 e.2.2.2.2.2.2.2.2.2)).2.2.1
@[irreducible] noncomputable def cl10_4 : α4 := (pick n (fun e => P e.1 e.2.1 e.2.2.1 e.2.2.2.1 e.2.2.2.2.1 e.2.2.2.2.2.1 e.2.2.2.2.2.2.1 e.2.2.2.2.2.2.2.1 e.2.2.2.2.2.2.2.2.1 e.2.2.2.2.2.2.2.2.2)).2.2.2.1
@[irreducible] noncomputable def cl10_5 : α5 := (pick n (fun e => P e.1 e.2.1 e.2.2.1 e.2.2.2.1 e.2.2.2.2.1 e.2.2.2.2.2.1 e.2.2.2.2.2.2.1 e.2.2.2.2.2.2.2.1 e.2.2.2.2.2.2.2.2.1 e.2.2.2.2.2.2.2.2.2)).2.2.2.2.1
@[irreducible] noncomputable def cl10_6 : α6 := (pick n (fun e => P e.1 e.2.1 e.2.2.1 e.2.2.2.1 e.2.2.2.2.1 e.2.2.2.2.2.1 e.2.2.2.2.2.2.1 e.2.2.2.2.2.2.2.1 e.2.2.2.2.2.2.2.2.1 e.2.2.2.2.2.2.2.2.2)).2.2.2.2.2.1
@[irreducible] noncomputable def cl10_7 : α7 := (pick n (fun e => P e.1 e.2.1 e.2.2.1 e.2.2.2.1 e.2.2.2.2.1 e.2.2.2.2.2.1 e.2.2.2.2.2.2.1 e.2.2.2.2.2.2.2.1 e.2.2.2.2.2.2.2.2.1 e.2.2.2.2.2.2.2.2.2)).2.2.2.2.2.2.1
@[irreducible] noncomputable def cl10_8 : α8 := (pick n (fun e => P e.1 e.2.1 e.2.2.1 e.2.2.2.1 e.2.2.2.2.1 e.2.2.2.2.2.1 e.2.2.2.2.2.2.1 e.2.2.2.2.2.2.2.1 e.2.2.2.2.2.2.2.2.1 e.2.2.2.2.2.2.2.2.2)).2.2.2.2.2.2.2.1
@[irreducible] noncomputable def cl10_9 : α9 := (pick n (fun e => P e.1 e.2.1 e.2.2.1 e.2.2.2.1 e.2.2.2.2.1 e.2.2.2.2.2.1 e.2.2.2.2.2.2.1 e.2.2.2.2.2.2.2.1 e.2.2.2.2.2.2.2.2.1 e.2.2.2.2.2.2.2.2.2)).2.2.2.2.2.2.2.2.1
@[irreducible] noncomputable def cl10_10 : α10 := (pick n (fun e => P e.1 e.2.1 e.2.2.1 e.2.2.2.1 e.2.2.2.2.1 e.2.2.2.2.2.1 e.2.2.2.2.2.2.1 e.2.2.2.2.2.2.2.1 e.2.2.2.2.2.2.2.2.1 e.2.2.2.2.2.2.2.2.2)).2.2.2.2.2.2.2.2.2
variable {P} [n : Nonempty (α1 × α2 × α3 × α4 × α5 × α6 × α7 × α8 × α9 × α10)]
theorem cl10 (h : P (cl10_1 n P) (cl10_2 n P) (cl10_3 n P) (cl10_4 n P) (cl10_5 n P) (cl10_6 n P) (cl10_7 n P) (cl10_8 n P) (cl10_9 n P) (cl10_10 n P)) : ∀ x1 x2 x3 x4 x5 x6 x7 x8 x9 x10, P x1 x2 x3 x4 x5 x6 x7 x8 x9 x10 := by
  unfold cl10_1 cl10_2 cl10_3 cl10_4 cl10_5 cl10_6 cl10_7 cl10_8 cl10_9 cl10_10 at h
  intro x1 x2 x3 x4 x5 x6 x7 x8 x9 x10
  exact pick_all n (P := fun e => P e.1 e.2.1 e.2.2.1 e.2.2.2.1 e.2.2.2.2.1 e.2.2.2.2.2.1 e.2.2.2.2.2.2.1 e.2.2.2.2.2.2.2.1 e.2.2.2.2.2.2.2.2.1 e.2.2.2.2.2.2.2.2.2) h (x1, x2, x3, x4, x5, x6, x7, x8, x9, x10)
end
end S_Cl
section S_Rx
open PySem.Sre in
theorem runFor_add (a b : Nat) (m : Sre.M) : m.runFor (a + b) = (m.runFor a).runFor b := by
  induction a generalizing m with
  | zero => rw [Nat.zero_add]; rfl
  | succ a ih =>
    rw [Nat.succ_add]
    show (if m.outcome.isSome then m else Sre.M.runFor (a + b) m.step) = Sre.M.runFor b (if m.outcome.isSome then m else Sre.M.runFor a m.step)
    by_cases h : m.outcome.isSome = true
    · rw [if_pos h, if_pos h]
      cases b with
      | zero => rfl
      | succ b =>
        show m = (if m.outcome.isSome then m else Sre.M.runFor b m.step)
        rw [if_pos h]
    · rw [if_neg h, if_neg h]; exact ih _
theorem runFor_some {m : Sre.M} (h : m.outcome.isSome = true) (n : Nat) : m.runFor n = m := by
  cases n with
  | zero => rfl
  | succ n =>
    show (if m.outcome.isSome then m else Sre.M.runFor n m.step) = m
    rw [if_pos h]
theorem runFor_one {m m' : Sre.M} (h : m.outcome.isSome = false) (e : m.step = m') (n : Nat) : m.runFor (n + 1) = m'.runFor n := by
  show (if m.outcome.isSome then m else Sre.M.runFor n m.step) = _
  rw [h, e]; rfl
noncomputable def Fails (m : Sre.M) : Prop := ∃ n, n ≤ 100000 ∧ (m.runFor n).outcome = some .failed
theorem drive_fail {M : Model} {A : Around} {E : Value → Shared → Prop} {s : Shared} {Q : Sre.M → Shared → Prop} (hQ : ∀ m', m'.outcome = some .failed → Q m' s) :
    ∀ (k n : Nat) (m : Sre.M), k < n → (m.runFor (4 * (k + 1))).outcome = some .failed → wpAny M A (Builtin.Re.reDrive n m) Q E s
  | k, 0, m, h, _ => absurd h (Nat.not_lt_zero _)
  | 0, n + 1, m, _, e => by
    unfold Builtin.Re.reDrive
    have e' : (m.runFor Builtin.Re.reTurnSteps).outcome = some .failed := e
    show wpAny M A (if (m.runFor Builtin.Re.reTurnSteps).outcome.isSome then _ else _) Q E s
    rw [if_pos (by rw [e']; rfl)]
    exact wpAny_pure (hQ _ e')
  | k + 1, n + 1, m, h, e => by
    unfold Builtin.Re.reDrive
    show wpAny M A (if (m.runFor Builtin.Re.reTurnSteps).outcome.isSome then _ else _) Q E s
    have e2 : 4 * (k + 1 + 1) = Builtin.Re.reTurnSteps + 4 * (k + 1) := by show _ = 4 + _; omega
    rw [e2, runFor_add] at e
    by_cases hs : (m.runFor Builtin.Re.reTurnSteps).outcome.isSome = true
    · rw [if_pos hs]
      rw [runFor_some hs] at e
      exact wpAny_pure (hQ _ e)
    · rw [if_neg hs]
      exact wpAny_bind (wpAny_rule (drive_fail hQ k n _ (Nat.lt_of_succ_lt_succ h) e))
theorem runFor_mono {m : Sre.M} {n k : Nat} (h : (m.runFor n).outcome = some .failed) (hk : n ≤ k) : (m.runFor k).outcome = some .failed := by
  obtain ⟨d, rfl⟩ := Nat.exists_eq_add_of_le hk
  rw [runFor_add, runFor_some (by rw [h]; rfl)]; exact h
theorem rules_all {M : Model} {A : Around} {E : Value → Shared → Prop} {s : Shared} {Q : PUnit → Shared → Prop} (p : Nat → Bool) (g : Nat → String) (h : Q ⟨⟩ s) : ∀ l : List Nat, wpAny M A (forIn l PUnit.unit fun i _ => (if p i = true then (do rule (g i); pure (ForInStep.yield PUnit.unit)) else pure (ForInStep.yield PUnit.unit))) Q E s
  | [] => by rw [List.forIn_nil]; exact wpAny_pure h
  | i :: l => by
    rw [List.forIn_cons]
    refine wpAny_bind ?_
    by_cases hp : p i = true
    · rw [if_pos hp]
      exact wpAny_bind (wpAny_rule (wpAny_pure (rules_all p g h l)))
    · rw [if_neg hp]
      exact wpAny_pure (rules_all p g h l)
theorem toEnd_fail {M : Model} {A : Around} {E : Value → Shared → Prop} {s : Shared} {Q : Option Sre.M → Shared → Prop} {m : Sre.M} (hf : Fails m) (h : Q none s) : wpAny M A (Builtin.Re.reRunToEnd m) Q E s := by
  unfold Builtin.Re.reRunToEnd
  obtain ⟨n, hn, e⟩ := hf
  refine wpAny_bind (drive_fail (k := 100000) (fun m' e' => ?_) _ _ (by decide) (runFor_mono e (by omega)))
  refine wpAny_bind (rules_all (fun i => m'.seen.has i) (fun i => Sre.names.getD i "") ?_ _)
  rw [e']
  exact wpAny_pure h
end S_Rx
section S_Rx2
noncomputable def c74 : Array Nat := #[14, 8, 1, 2, 4294967295, 1, 1, 46, 0, 16, 46, 24, 9, 1, 4294967295, 13, 4, 8, 0, 0, 1, 6, 5, 1]
noncomputable def ms (t : Array Nat) (s st hd : Nat) (oe ma : Bool) (seen : Sre.Seen) : Sre.M :=
  { code := c74, text := t, lim := t.size, start := st, lastStart := t.size, mustAdvance := ma, pc := 9, pos := s, handed := hd, outermost := oe, marks := #[],
    frames := [{ wait := .nextStart, pc := 9, pos := s, outermost := oe }], weight := 1, seen := seen }
noncomputable def m11 (t : Array Nat) (s st hd : Nat) (oe ma : Bool) (seen : Sre.Seen) : Sre.M :=
  { code := c74, text := t, lim := t.size, start := st, lastStart := t.size, mustAdvance := ma, pc := 11, pos := s + 1, handed := hd, outermost := oe, marks := #[],
    frames := [{ wait := .nextStart, pc := 9, pos := s, outermost := oe }], weight := 1, seen := seen }
noncomputable def mno (t : Array Nat) (s p pc st hd : Nat) (oe ma : Bool) (seen : Sre.Seen) : Sre.M :=
  { code := c74, text := t, lim := t.size, start := st, lastStart := t.size, mustAdvance := ma, pc := pc, pos := p, handed := hd, outermost := oe, marks := #[],
    frames := [{ wait := .nextStart, pc := 9, pos := s, outermost := oe }], weight := 1, seen := seen, answer := some false }
theorem ms_step (t : Array Nat) (s st hd : Nat) (oe ma : Bool) (seen : Sre.Seen) : (ms t s st hd oe ma seen).step =
    if s ≥ t.size then mno t s s 9 st hd oe ma (seen.add 16) else if (t.getD s 0 == 46) = true then m11 t s st hd oe ma (seen.add 16) else mno t s s 9 st hd oe ma (seen.add 16) := by
  by_cases h : s ≥ t.size
  · rw [if_pos h]
    show (if s ≥ t.size then _ else _) = _
    rw [if_pos h]; rfl
  · rw [if_neg h]
    show (if s ≥ t.size then _ else _) = _
    rw [if_neg h]
    show (match (Except.ok (t.getD s 0 == 46, seen.add 16) : Except String (Bool × Sre.Seen)) with | .error why => _ | .ok (false, seen) => _ | .ok (true, seen) => _) = _
    cases hc : (t.getD s 0 == 46) with
    | true => rfl
    | false => rfl
theorem no_step (t : Array Nat) (s p pc st hd : Nat) (oe ma : Bool) (seen : Sre.Seen) (h : s < t.size) : (mno t s p pc st hd oe ma seen).step = ms t (s + 1) (s + 1) (s + 1) false false seen := by
  show (if s < t.size then _ else _) = _
  rw [if_pos h]; rfl
theorem no_end (t : Array Nat) (s p pc st hd : Nat) (oe ma : Bool) (seen : Sre.Seen) (h : ¬ s < t.size) : ((mno t s p pc st hd oe ma seen).runFor 2).outcome = some .failed := by
  have e : (mno t s p pc st hd oe ma seen).step = { (mno t s p pc st hd oe ma seen) with frames := [], weight := 0, pc := 9, pos := s, answer := some false } := by
    show (if s < t.size then _ else _) = _
    rw [if_neg h]; rfl
  rw [runFor_one rfl e, runFor_one rfl rfl]
  rfl
theorem accepts15 (c : Nat) (seen : Sre.Seen) (hc : Sre.isDigit c = false) : ∃ seen', Sre.accepts c74 15 c seen = .ok (false, seen') := by
  refine ⟨((seen.add 8).add 55).add 0, ?_⟩
  show Sre.inSet c74 c 24 17 true seen = _
  have e : Sre.category 0 c = .ok false := by
    show (Except.ok (Sre.isDigit c)).map (fun x => x != (0 % 2 == 1)) = (Except.ok false : Except String Bool)
    rw [hc]; rfl
  show (Sre.category 0 c >>= fun y => _) = _
  rw [e]; rfl
theorem run15 (t : Array Nat) (n p : Nat) (seen : Sre.Seen) (hc : Sre.isDigit (t.getD p 0) = false) (hn : 0 < n) : ∃ seen', Sre.run c74 t 15 n p 0 seen = .ok (0, seen') := by
  obtain ⟨seen', e⟩ := accepts15 (t.getD p 0) seen hc
  cases n with
  | zero => exact absurd hn (Nat.lt_irrefl _)
  | succ n =>
    refine ⟨seen', ?_⟩
    show (Sre.accepts c74 15 (t.getD p 0) seen >>= fun y => _) = _
    rw [e]; rfl
theorem run_in {α : Type} {r : Except String (Nat × Sre.Seen)} {sn : Sre.Seen} (e : r = .ok (0, sn)) (F : Except String (Nat × Sre.Seen) → α) : F r = F (.ok (0, sn)) := by rw [e]
theorem m11_step (t : Array Nat) (s st hd : Nat) (oe ma : Bool) (seen : Sre.Seen) (hs : s < t.size) (hd' : Sre.isDigit (t.getD (s + 1) 0) = false) : ∃ p seen', (m11 t s st hd oe ma seen).step = mno t s p 11 st hd oe ma seen' := by
  by_cases h : ((1 : Nat) : Int) > (t.size : Int) - ((s + 1 : Nat) : Int)
  · exact ⟨s + 1, seen.add 24, Eq.trans (if_pos h) rfl⟩
  · obtain ⟨sn, e⟩ := run15 t (min 4294967295 ((t.size : Int) - ((s + 1 : Nat) : Int)).toNat) (s + 1) ((seen.add 24).add 13) hd' (by omega)
    exact ⟨s + 1, sn, Eq.trans (if_neg h) ((run_in e fun r => match r with
      | .error why => Sre.M.stick { (m11 t s st hd oe ma seen) with seen := seen.add 24 } why
      | .ok (n, seen1) =>
        let m : Sre.M := { (m11 t s st hd oe ma seen) with seen := seen1 }
        if n < 1 then m.say false else
        let m := { m with pos := m.pos + n }
        m.afterRun .giveBack n (m.keep m.inner.isSome)).trans rfl)⟩
theorem fails_ms (t : Array Nat) (hd' : ∀ i, Sre.isDigit (t.getD i 0) = false) : ∀ (k s st hd : Nat) (oe ma : Bool) (seen : Sre.Seen), t.size + 1 - s ≤ k → ∃ n, n ≤ 3 * k + 3 ∧ ((ms t s st hd oe ma seen).runFor n).outcome = some .failed
  | 0, s, st, hd, oe, ma, seen, hk => by
    refine ⟨3, Nat.le_refl _, ?_⟩
    have h : s ≥ t.size := by omega
    rw [runFor_one rfl ((ms_step ..).trans (if_pos h))]
    exact no_end _ _ _ _ _ _ _ _ _ (by omega)
  | k + 1, s, st, hd, oe, ma, seen, hk => by
    by_cases h : s ≥ t.size
    · refine ⟨3, by omega, ?_⟩
      rw [runFor_one rfl ((ms_step ..).trans (if_pos h))]
      exact no_end _ _ _ _ _ _ _ _ _ (by omega)
    · have hl : s < t.size := by omega
      by_cases h46 : (t.getD s 0 == 46) = true
      · obtain ⟨p, seen', e⟩ := m11_step t s st hd oe ma (seen.add 16) hl (hd' _)
        obtain ⟨n, hn, e2⟩ := fails_ms t hd' k (s + 1) (s + 1) (s + 1) false false seen' (by omega)
        refine ⟨n + 1 + 1 + 1, by omega, ?_⟩
        rw [runFor_one rfl ((ms_step ..).trans ((if_neg h).trans (if_pos h46))), runFor_one rfl e, runFor_one rfl (no_step _ _ _ _ _ _ _ _ _ hl)]
        exact e2
      · obtain ⟨n, hn, e2⟩ := fails_ms t hd' k (s + 1) (s + 1) (s + 1) false false (seen.add 16) (by omega)
        refine ⟨n + 1 + 1, by omega, ?_⟩
        rw [runFor_one rfl ((ms_step ..).trans ((if_neg h).trans (if_neg h46))), runFor_one rfl (no_step _ _ _ _ _ _ _ _ _ hl)]
        exact e2
theorem search74 (t : Array Nat) (hd' : ∀ i, Sre.isDigit (t.getD i 0) = false) (hs : t.size ≤ 10000) : Fails (Sre.forSearch c74 t 0 0 t.size false) := by
  by_cases h : (decide (0 > t.size) || decide (t.size - 0 < 2)) = true
  · refine ⟨1, by decide, ?_⟩
    have e : Sre.forSearch c74 t 0 0 t.size false = Sre.M.say { code := c74, text := t, lim := t.size, start := 0, pc := 9, pos := 0, handed := 0, marks := #[], mustAdvance := false, seen := ({} : Sre.Seen).add 14 } false :=
      Eq.trans (if_pos h) rfl
    rw [e, runFor_one rfl rfl]
    rfl
  · have h2 : ¬ ((0 > t.size) ∨ (t.size - 0 < 2)) := by simpa using h
    have e : Sre.forSearch c74 t 0 0 t.size false = ms t 0 0 0 true false (({} : Sre.Seen).add 14) := Eq.trans (if_neg h) rfl
    rw [e]
    obtain ⟨n, hn, hf⟩ := fails_ms t hd' (t.size + 1) 0 0 0 true false (({} : Sre.Seen).add 14) (by omega)
    exact ⟨n, by omega, hf⟩
end S_Rx2
section S_RxR
theorem plainAttrs_pat : PlainAttrs "re.Pattern" :=
  ⟨⟨"object.__getattribute__", lkQ (by kernel_rfl), canQ (by kernel_rfl)⟩, lkQ (by kernel_rfl)⟩
theorem slot_pat_search : Slot "re.Pattern" "search" "re.Pattern.search" :=
  .of (owner := "re.Pattern") (n := "search") (lkQ (by kernel_rfl)) (by kernel_rfl) (by kernel_rfl) (by kernel_rfl) (.inr (kindQ (by kernel_rfl))) (subQ (by kernel_rfl))
theorem type_pat_search : typeOf (.builtin "re.Pattern.search") = pure (.type "method_descriptor") := by show builtinType _ = _; rw [builtinType_eq_fast]; kernel_rfl
theorem entry_pat_search : entryFor table "re.Pattern.search" = some Builtin.«re.Pattern.search» := entryFor_of_tree (by kernel_rfl)
theorem args_pat_search (a b : Value) : argsOk "re.Pattern.search" ⟨[a, b], []⟩ := argQ (by kernel_rfl)
theorem getMethod_pat {M : Model} {A : Around} {E : Value → Shared → Prop} {s : Shared} {a : Addr} {o : Obj} {pl : Sem Bool} {Q : Value × List Value → Shared → Prop} (ho : s.heap.get? a = some o) (hc : o.cls = .type "re.Pattern") (hd : o.dict = none)
    (h : Q (.builtin "re.Pattern.search", [.ref a]) s) : wpAny M A (getMethod (.ref a) "search" pl) Q E s :=
  getMethod_builtin (T := "re.Pattern") ⟨o, ho, hc⟩ plainAttrs_pat slot_pat_search type_pat_search (fun b e => by cases e; exact ⟨o, ho, hd⟩) h
theorem reNamed2 {M : Model} {A : Around} {E : Value → Shared → Prop} {s : Shared} {v : Value} {Q : List (Option Value) → Shared → Prop} (h : Q [some v, none, none] s) :
    wpAny M A (Builtin.Re.reNamed "re.Pattern.search" "search" ["string", "pos", "endpos"] 1 [v] []) Q E s := by
  have e : Builtin.Re.reNamed "re.Pattern.search" "search" ["string", "pos", "endpos"] 1 [v] [] = pure [some v, none, none] := rfl
  rw [e]; exact wpAny_pure h
noncomputable def arr73 : Array Value := (c74.toList.map fun n => Value.int (n : Nat) 0).toArray
theorem code73 : (arr73.map Builtin.Re.reRawOf).map (fun x => x.toNat) = c74 := by
  unfold arr73
  rw [List.map_toArray, List.map_toArray]
  rfl
theorem arr_is (P : Params) : ((o73 P).data) = .seq arr73 0 := by kernel_rfl
theorem search_no {prog : Program} {w : World} {A : Around} {E : Value → Shared → Prop} {s : Shared} {x : PySem.Str} {t : Tok} {P : Params} {Q : Value → Shared → Prop} (ho : s.heap.get? 74 = some (o74 P)) (hc : s.heap.get? 73 = some (o73 P))
    (hx : x.length ≤ 10000) (hn : ∀ i, Sre.isDigit (x.cps.getD i 0) = false) (h : Q .none s) : wpAny (model prog w) A (call (.builtin "re.Pattern.search") [.ref 74, .str x t]) Q E s := by
  refine wpAny_call_entry slot_pat_search ⟨_, ho, rfl⟩ entry_pat_search ?_ (args_pat_search _ _)
  unfold Builtin.«re.Pattern.search»
  refine wpAny_bind ?_
  unfold Builtin.Re.reTarget
  refine wpAny_bind (reNamed2 ?_)
  refine wpAny_bind (wpAny_pure ?_)
  refine wpAny_bind (wpAny_pure ?_)
  refine wpAny_bind (wpAny_fieldsOf ho rfl ?_)
  refine wpAny_bind (m := Builtin.Re.reTextOf (.str x t)) (wpAny_pure ?_)
  refine wpAny_bind (m := pure PUnit.unit) (wpAny_pure ?_)
  refine wpAny_bind ?_
  unfold Builtin.Re.reRawItems
  refine wpAny_bind ?_
  show wpAny _ _ (do match (← load 73).data with | .seq xs _ => pure (some xs) | _ => pure none) _ _ _
  refine wpAny_bind (wpAny_load hc ?_)
  rw [arr_is P]
  refine wpAny_pure (wpAny_pure ?_)
  refine wpAny_pure ?_
  have ht : min (Int.toNat (2 ^ 63 - 1)) x.cps.size = x.cps.size := by
    have : x.cps.size ≤ 10000 := hx
    omega
  have hf := search74 x.cps hn hx
  unfold Builtin.Re.reAnswer
  have key : ∀ (c : Array Nat) (g p l : Nat), c = c74 → g = 0 → p = 0 → l = x.cps.size → Fails (Sre.forSearch c x.cps g p l false) := by
    rintro _ _ _ _ rfl rfl rfl rfl; exact hf
  refine wpAny_bind (toEnd_fail ?_ ?_)
  · exact key _ _ _ _ code73 rfl (Nat.zero_min _) ht
  · exact wpAny_pure ⟨_, rfl, h⟩
end S_RxR
section S_FHdn
example : True := by
  k_with "getMethod ref" => (((with_reducible show wpAny _ _ (getMethod (Value.ref 74) _ _) _ _ _); with_unfolding_all refine getMethod_pat (Frag.In.keeps (by assumption) (Fr.keep (by assumption)) 74 _ (by k_is)) rfl rfl ?_; (try dsimp only)))
  k_with "call builtin:re.Pattern.search" => ((with_unfolding_all refine search_no (Frag.In.keeps (by assumption) (Fr.keep (by assumption)) 74 _ (by k_is)) (Frag.In.keeps (by assumption) (Fr.keep (by assumption)) 73 _ (by k_is)) (by omega) (by assumption) ?_; (try dsimp only)))
  trivial
theorem libHDN (w : World) (x : PySem.Str) (tx : Tok) (news : Led) (hx : x.length ≤ 10000) (hn : ∀ i, Sre.isDigit (x.cps.getD i 0) = false) : Fn w 990 81 [.str x tx] news (fun r n => r = .bool true ∧ n = news) := by
  w_on
  refine fn_in ?_
  intro p loose mean mg mb dp un gd cn cs a ccd cl outer A₀ base h₀ L m shQ sgQ sdQ stQ soQ Q E B F X N T C1 C2 hk hd hu hret
  with_unfolding_all refine' code_my (binds := [(PySem.Str.ofString "text", .str x tx)]) B F X N T C1 C2 ?kA ?kF ?kK ?ko ?est ?kcd ?kroom ?kbind ?kloc ?_ ?kco ?kgen ?kkind ?kcell
  (case kA => exact rfl)
  (case kF => exact rfl)
  (case kK => exact hk)
  (case ko => k_is)
  (case est => exact rfl)
  (case kcd => k_is)
  (case kroom => (show dp < 1000; omega))
  (case kbind => exact BindsTo.of_eq rfl)
  (case kloc => exact locs rfl)
  (case kco => exact rfl)
  (case kgen => exact rfl)
  (case kkind => exact rfl)
  (case kcell => decide)
  intro g' L' h' tk' FG' F' N' B' X' T' C1' C2' lt'
  clear F N FG'
  (try dsimp only)
  (try k_fold)
  k_steps
  all_goals first | exact hret _ _ _ _ (by assumption) (by assumption) ⟨rfl, rfl⟩ | w_report
end S_FHdn
local macro_rules | `(tactic| intro $x:term $y:term $ys:term*) => `(tactic| (intro $x:term; intro $y:term $ys:term*)) | `(tactic| intro $x:ident) => `(tactic| ((fail_if_success (fail_if_success (with_reducible rename Clo => yc))); refine cl1 ?_; generalize cl1_1 _ _ = $x)) | `(tactic| intro _) => `(tactic| ((fail_if_success (fail_if_success (with_reducible rename Clo => yc))); refine cl1 ?_; generalize cl1_1 _ _ = x))
local macro_rules | `(tactic| intro $x:ident $y:ident $z:ident $u:term $ys:term*) => `(tactic| first | (((fail_if_success (fail_if_success (with_reducible rename Clo => yc))); refine cl3 ?_; generalize cl3_1 _ _ = $x, cl3_2 _ _ = $y, cl3_3 _ _ = $z); intro $u:term $ys:term*) | (((fail_if_success (fail_if_success (with_reducible rename Clo => yc))); refine cl2 ?_; generalize cl2_1 _ _ = $x, cl2_2 _ _ = $y); intro $z:ident $u:term $ys:term*) | (intro $x:ident; intro $y:ident $z:ident $u:term $ys:term*))
local macro_rules | `(tactic| walk_at "i3") => `(tactic| (intro h' F' N'))
local macro_rules | `(tactic| walk_at "i5") => `(tactic| (intro h' t' k' F' N'))
local macro_rules | `(tactic| walk_at "l5") => `(tactic| (intro q' h' F' N' l1; (try k_lt l1)))
local macro_rules | `(tactic| walk_at "l6") => `(tactic| (intro D' c' h' F' N' l1; (try k_lt l1)))
local macro_rules | `(tactic| walk_at "tI") => `(tactic| (intro h' o' F' N' hd'; (try dsimp only at N')))
example : True := by
  k_with "dep" => (first | (with_reducible exact dep1 (by assumption) (by decide)) | exact dep1 (n := 1) (by assumption) (by decide) | exact dep1 (n := 3) (by assumption) (by decide) | omega | (simp only [depth_deeper, depth_in1]; omega) | (simp only [units_deeper, units_in1]; omega))
  trivial
section S_FUdm
structure Low (x : PySem.Str) : Prop where
  len : x.length ≤ 3000
  low : Txt.lower x = x
  fig : ∀ i, Sre.isDigit (x.cps.getD i 0) = false
local macro_rules | `(tactic| walk_at "tU") => `(tactic| (intro r' n' h' tk' F' N' hp'; obtain ⟨e1', e2'⟩ := hp'; subst e1'; replace e2' := e2'.symm; subst e2'; (try dsimp only)))
example : True := by
  k_with "call ref" => (((with_reducible show wpAny _ _ (call (Value.ref 81) _) _ _ _); refine fn_use (libHDN _ _ _ _ ?h1 ?h2) (by assumption) (by assumption) (by assumption) (by assumption) (by assumption) (by assumption) (by assumption) (by rfl) (by k_extra "dep") (by k_extra "dep") ?_; (case h1 => omega); (case h2 => assumption); walk_at "tU"))
  trivial
namespace Kudm
abbrev Par : Type := (World) × (PySem.Str) × (PySem.Str) × (Tok) × (Tok) × (Led) × (Program) × (List PySem.Str) × (ExcName → Option Value) × (PySem.Str → Option Value) × (PySem.Str → Option Value) × (Nat) × (Nat) × (Option (List Code)) × (PySem.Str) × (Scope) × (Addr) × (Value) × (List (PySem.Str × Addr)) × (List Env) × (Around) × (Heap) × (Heap) × (Addr) × (PySem.Str → Option Value) × (Shared) × (Value → Shared → Prop) × (Value → Shared → Prop)
theorem ne : Nonempty Par := ⟨by refine ⟨?_, ?_, ?_, ?_, ?_, ?_, ?_, ?_, ?_, ?_, ?_, ?_, ?_, ?_, ?_, ?_, ?_, ?_, ?_, ?_, ?_, ?_, ?_, ?_, ?_, ?_, ?_, ?_⟩ <;> first | exact W0 | exact default | exact {} | exact FD0⟩
noncomputable def Goal : Par → Prop := fun e0 => (fun (w : World) (x : PySem.Str) (y : PySem.Str) (tx : Tok) (ty : Tok) (news : Led) (p : Program) (loose : List PySem.Str) (mean : ExcName → Option Value) (mg : PySem.Str → Option Value) (mb : PySem.Str → Option Value) (dp : Nat) (un : Nat) (gd : Option (List Code)) (cn : PySem.Str) (cs : Scope) (a : Addr) (ccd : Value) (cl : List (PySem.Str × Addr)) (outer : List Env) (A₀ : Around) (base : Heap) (h₀ : Heap) (L : Addr) (m : PySem.Str → Option Value) (s : Shared) (Q : Value → Shared → Prop) (E : Value → Shared → Prop) => (hx : Low (Txt.lower x)) → (hx3 : x.length ≤ 3000) → (hy : Low y) → (hdot : Txt.startswith y (PySem.Str.ofString ".") = true) → FnG w 900 88 [.str x tx, .str y ty] news (fun r n => r = .bool (Txt.endswith (Txt.lower x) y) ∧ n = news) p loose mean mg mb dp un gd cn cs a ccd cl outer A₀ base h₀ L m s Q E) e0.1 e0.2.1 e0.2.2.1 e0.2.2.2.1 e0.2.2.2.2.1 e0.2.2.2.2.2.1 e0.2.2.2.2.2.2.1 e0.2.2.2.2.2.2.2.1 e0.2.2.2.2.2.2.2.2.1 e0.2.2.2.2.2.2.2.2.2.1 e0.2.2.2.2.2.2.2.2.2.2.1 e0.2.2.2.2.2.2.2.2.2.2.2.1 e0.2.2.2.2.2.2.2.2.2.2.2.2.1 e0.2.2.2.2.2.2.2.2.2.2.2.2.2.1 e0.2.2.2.2.2.2.2.2.2.2.2.2.2.2.1 e0.2.2.2.2.2.2.2.2.2.2.2.2.2.2.2.1 e0.2.2.2.2.2.2.2.2.2.2.2.2.2.2.2.2.1 e0.2.2.2.2.2.2.2.2.2.2.2.2.2.2.2.2.2.1 e0.2.2.2.2.2.2.2.2.2.2.2.2.2.2.2.2.2.2.1 e0.2.2.2.2.2.2.2.2.2.2.2.2.2.2.2.2.2.2.2.1 e0.2.2.2.2.2.2.2.2.2.2.2.2.2.2.2.2.2.2.2.2.1 e0.2.2.2.2.2.2.2.2.2.2.2.2.2.2.2.2.2.2.2.2.2.1 e0.2.2.2.2.2.2.2.2.2.2.2.2.2.2.2.2.2.2.2.2.2.2.1 e0.2.2.2.2.2.2.2.2.2.2.2.2.2.2.2.2.2.2.2.2.2.2.2.1 e0.2.2.2.2.2.2.2.2.2.2.2.2.2.2.2.2.2.2.2.2.2.2.2.2.1 e0.2.2.2.2.2.2.2.2.2.2.2.2.2.2.2.2.2.2.2.2.2.2.2.2.2.1 e0.2.2.2.2.2.2.2.2.2.2.2.2.2.2.2.2.2.2.2.2.2.2.2.2.2.2.1 e0.2.2.2.2.2.2.2.2.2.2.2.2.2.2.2.2.2.2.2.2.2.2.2.2.2.2.2
noncomputable def q : Par := pick ne Goal
@[irreducible] noncomputable def w : World := q.1
@[irreducible] noncomputable def x : PySem.Str := q.2.1
@[irreducible] noncomputable def y : PySem.Str := q.2.2.1
@[irreducible] noncomputable def tx : Tok := q.2.2.2.1
@[irreducible] noncomputable def ty : Tok := q.2.2.2.2.1
@[irreducible] noncomputable def news : Led := q.2.2.2.2.2.1
@[irreducible] noncomputable def p : Program := q.2.2.2.2.2.2.1
@[irreducible] noncomputable def loose : List PySem.Str := q.2.2.2.2.2.2.2.1
@[irreducible] noncomputable def mean : ExcName → Option Value := q.2.2.2.2.2.2.2.2.1
@[irreducible] noncomputable def mg : PySem.Str → Option Value := q.2.2.2.2.2.2.2.2.2.1
@[irreducible] noncomputable def mb : PySem.Str → Option Value := q.2.2.2.2.2.2.2.2.2.2.1
@[irreducible] noncomputable def dp : Nat := q.2.2.2.2.2.2.2.2.2.2.2.1
@[irreducible] noncomputable def un : Nat := q.2.2.2.2.2.2.2.2.2.2.2.2.1
@[irreducible] noncomputable def gd : Option (List Code) := q.2.2.2.2.2.2.2.2.2.2.2.2.2.1
@[irreducible] noncomputable def cn : PySem.Str := q.2.2.2.2.2.2.2.2.2.2.2.2.2.2.1
@[irreducible] noncomputable def cs : Scope := q.2.2.2.2.2.2.2.2.2.2.2.2.2.2.2.1
@[irreducible] noncomputable def a : Addr := q.2.2.2.2.2.2.2.2.2.2.2.2.2.2.2.2.1
@[irreducible] noncomputable def ccd : Value := q.2.2.2.2.2.2.2.2.2.2.2.2.2.2.2.2.2.1
@[irreducible] noncomputable def cl : List (PySem.Str × Addr) := q.2.2.2.2.2.2.2.2.2.2.2.2.2.2.2.2.2.2.1
@[irreducible] noncomputable def outer : List Env := q.2.2.2.2.2.2.2.2.2.2.2.2.2.2.2.2.2.2.2.1
@[irreducible] noncomputable def A₀ : Around := q.2.2.2.2.2.2.2.2.2.2.2.2.2.2.2.2.2.2.2.2.1
@[irreducible] noncomputable def base : Heap := q.2.2.2.2.2.2.2.2.2.2.2.2.2.2.2.2.2.2.2.2.2.1
@[irreducible] noncomputable def h₀ : Heap := q.2.2.2.2.2.2.2.2.2.2.2.2.2.2.2.2.2.2.2.2.2.2.1
@[irreducible] noncomputable def L : Addr := q.2.2.2.2.2.2.2.2.2.2.2.2.2.2.2.2.2.2.2.2.2.2.2.1
@[irreducible] noncomputable def m : PySem.Str → Option Value := q.2.2.2.2.2.2.2.2.2.2.2.2.2.2.2.2.2.2.2.2.2.2.2.2.1
@[irreducible] noncomputable def s : Shared := q.2.2.2.2.2.2.2.2.2.2.2.2.2.2.2.2.2.2.2.2.2.2.2.2.2.1
@[irreducible] noncomputable def Q : Value → Shared → Prop := q.2.2.2.2.2.2.2.2.2.2.2.2.2.2.2.2.2.2.2.2.2.2.2.2.2.2.1
@[irreducible] noncomputable def E : Value → Shared → Prop := q.2.2.2.2.2.2.2.2.2.2.2.2.2.2.2.2.2.2.2.2.2.2.2.2.2.2.2
noncomputable def BH (g₉ : Heap) (l₉ : Addr) (h₉ : Heap) (t₉ : Nat) : Prop := BodyH w 88 87 13 [(PySem.Str.ofString "B", .str y ty), (PySem.Str.ofString "A", .str x tx)] news p loose mean mg mb dp un gd cn cs a ccd cl outer base h₀ L m s Q E (rfl : stm 13 = _) g₉ l₉ h₉ t₉
noncomputable def ev : EV := pick evne (fun e => BH e.g e.l e.h e.t)
@[irreducible] noncomputable def g' : Heap := ev.g
@[irreducible] noncomputable def L' : Addr := ev.l
@[irreducible] noncomputable def h' : Heap := ev.h
@[irreducible] noncomputable def tk' : Nat := ev.t
theorem body (hx : Low (Txt.lower x)) (hx3 : x.length ≤ 3000) (hy : Low y) (hdot : Txt.startswith y (PySem.Str.ofString ".") = true) (B : Below A₀ base outer h₀) (X : (K0 w.params).In h₀) (T : Top p loose mean mg mb h₀) (C1 : CodeHd h₀ 61 57) (C2 : CodeHd h₀ 170 168) (hk : cs.kind = .function) (hd : dp < 900) (hu : un < 8 * 900) (hret : ∀ r news' h' tk', Fr h₀ L h' m → News h₀ L h' news' → ((fun r n => r = .bool (Txt.endswith (Txt.lower x) y) ∧ n = news)) r news' → Q r { s with heap := h', toks := tk' }) : BH g' L' h' tk' := by
  have yc : Clo := .mk
  w_on
  intro F' N' B' X' T' C1' C2' lt'
  (try dsimp only)
  obtain ⟨hx1, hx2, hx4⟩ := hx
  obtain ⟨hy1, hy2, hy4⟩ := hy
  have hy5 : ∀ i, Sre.isDigit ((Txt.lower y).cps.getD i 0) = false := by rw [hy2]; exact hy4
  have hy6 : (Txt.lower y).length ≤ 3000 := by rw [hy2]; exact hy1
  k_steps
  all_goals (refine hret _ _ _ _ (by assumption) (by assumption) ⟨congrArg Value.bool ?_, rfl⟩)
  all_goals (clear hret B X T B' X' T')
  all_goals (simp_all; done)
theorem main (hx : Low (Txt.lower x)) (hx3 : x.length ≤ 3000) (hy : Low y) (hdot : Txt.startswith y (PySem.Str.ofString ".") = true) : FnG w 900 88 [.str x tx, .str y ty] news (fun r n => r = .bool (Txt.endswith (Txt.lower x) y) ∧ n = news) p loose mean mg mb dp un gd cn cs a ccd cl outer A₀ base h₀ L m s Q E := by
  intro B F X N T C1 C2 hk hd hu hret
  refine wpAny_call ?_
  with_unfolding_all refine' code_my (binds := [(PySem.Str.ofString "B", .str y ty), (PySem.Str.ofString "A", .str x tx)]) B F X N T C1 C2 ?kA ?kF ?kK ?ko ?est ?kcd ?kroom ?kbind ?kloc (fun g₁ l₁ h₁ t₁ _ => pick_all evne (P := fun e => BH e.g e.l e.h e.t) ?bd ⟨g₁, l₁, h₁, t₁⟩) ?kco ?kgen ?kkind ?kcell
  (case kA => exact rfl)
  (case kF => exact rfl)
  (case kK => exact hk)
  (case ko => k_is)
  (case est => exact rfl)
  (case kcd => k_is)
  (case kroom => (show dp < 1000; omega))
  (case kbind => exact BindsTo.of_eq rfl)
  (case kloc => exact locs rfl)
  (case kco => exact rfl)
  (case kgen => exact rfl)
  (case kkind => exact rfl)
  (case kcell => decide)
  (case bd => with_unfolding_all exact body hx hx3 hy hdot B X T C1 C2 hk hd hu hret)
theorem goal_q : Goal q := by with_unfolding_all exact main
end Kudm
theorem udm (w : World) (x y : PySem.Str) (tx ty : Tok) (news : Led) (hx : Low (Txt.lower x)) (hx3 : x.length ≤ 3000) (hy : Low y) (hdot : Txt.startswith y (PySem.Str.ofString ".") = true) :
    Fn w 900 88 [.str x tx, .str y ty] news (fun r n => r = .bool (Txt.endswith (Txt.lower x) y) ∧ n = news) := by
  exact fun p loose mean mg mb dp un gd cn cs a ccd cl outer A₀ base h₀ L m s Q E => pick_all Kudm.ne (P := Kudm.Goal) Kudm.goal_q ⟨w, x, y, tx, ty, news, p, loose, mean, mg, mb, dp, un, gd, cn, cs, a, ccd, cl, outer, A₀, base, h₀, L, m, s, Q, E⟩ hx hx3 hy hdot
end S_FUdm
section S_Tr
noncomputable abbrev KeepsH (h h' : Heap) : Prop := ∀ b o, h.get? b = some o → h'.get? b = some o
section
variable {prog : Program} {w : World} {A : Around} {E : Value → Shared → Prop} {s : Shared} {d : Addr} {f : Int → Option Value} {n : Nat}
theorem look_text {t : PySem.Str} {tk : Tok} {Q : Builtin.Str.Mapped → Shared → Prop} (hm : s.heap.MapOf (intKind prog w) d f) (hf : f (n : Int) = some (.str t tk)) (h : ∀ tk', Q (.text t) { s with toks := tk' }) :
    wpAny (model prog w) A (Builtin.Str.tableLookup (.ref d) n) Q E s := by
  unfold Builtin.Str.tableLookup
  refine wpAny_bind (wpAny_attempt (wpAny_bind (wpAny_mkInt ?_)))
  refine wpAny_getItem_of (intKind_is _ _ _ _) (s := { s with toks := s.toks + 1 }) hm hf ?_
  exact wpAny_bind (wpAny_pure (wpAny_bind (wpAny_pure (wpAny_pure (h _)))))
theorem look_keep {Q : Builtin.Str.Mapped → Shared → Prop} (hm : s.heap.MapOf (intKind prog w) d f) (hd : (d == sysModules) = false) (hh : A.handled = none) (hf : f (n : Int) = none) (h : ∀ h' tk', KeepsH s.heap h' → Q .keep { s with heap := h', toks := tk' }) :
    wpAny (model prog w) A (Builtin.Str.tableLookup (.ref d) n) Q E s := by
  unfold Builtin.Str.tableLookup
  refine wpAny_bind (wpAny_attempt (wpAny_bind (wpAny_mkInt ?_)))
  refine wpAny_getItem_missing_of (intKind_is _ _ _ _) hd hh (s := { s with toks := s.toks + 1 }) hm hf (fun h' e he => ?_)
  obtain ⟨ob, t, h1, h2, h3⟩ := he.there
  have sub : isSubtype (.type "KeyError") (.type "LookupError") = pure true := by rw [isSubtype_type]; kernel_rfl
  refine wpAny_bind (wpAny_isInstance (T := "KeyError") (s := { s with heap := h', toks := s.toks + 1 + 1 }) ⟨ob, h1, h2⟩ sub ?_)
  exact wpAny_bind (wpAny_rule (wpAny_pure (h h' _ he.keeps)))
end
section
variable {prog : Program} {w : World} {A : Around} {E : Value → Shared → Prop} {s : Shared} {d : Addr} {f : Int → Option Value} {n : Nat} {tx : Tok}
theorem translate_text {t : PySem.Str} {tk : Tok} {Q : Value → Shared → Prop} (hm : s.heap.MapOf (intKind prog w) d f) (hf : f (n : Int) = some (.str t tk)) (hn : n < 128) (ht : t.length = 2) (h : ∀ tk', Q (.str t tk') { s with toks := tk' + 1 }) :
    wpAny (model prog w) A (call (.builtin "str.translate") [.str ⟨#[n]⟩ tx, .ref d]) Q E s := by
  refine wpAny_call_entry F.slot_str_translate (typeIs_str _ _ _) F.entry_str_translate ?_ (F.args_str_translate_2 _ _)
  unfold Builtin.«str.translate»
  refine wpAny_bind (m := Builtin.Str.strOneArg "translate" _) (wpAny_pure ?_)
  dsimp only
  rw [if_neg (by show ¬ ((1 : Nat) == 0) = true; decide)]
  refine wpAny_bind ?_
  simp only [List.forIn_toArray, List.forIn_cons, List.forIn_nil]
  have hall : (#[n].all fun x => decide (x < 128)) = true := by simp [hn]
  have e : (t.length == 1) = false := by rw [ht]; rfl
  refine wpAny_bind ?_
  rw [if_neg (by decide), if_pos hall]
  refine wpAny_bind (look_text hm hf fun tk1 => ?_)
  dsimp only
  rw [e]
  simp only [Bool.false_and, Bool.false_eq_true, if_false]
  refine wpAny_bind (wpAny_pure ?_)
  dsimp only
  refine wpAny_bind (wpAny_rule ?_)
  refine wpAny_bind (look_text (s := { s with toks := tk1 }) hm hf fun tk2 => ?_)
  refine wpAny_pure (wpAny_pure ?_)
  dsimp only
  rw [if_neg (by rw [ht]; decide)]
  have e2 : (⟨List.foldl (fun acc p => acc ++ p.cps) #[] [t].reverse⟩ : PySem.Str) = t := by
    show (⟨#[] ++ t.cps⟩ : PySem.Str) = t
    rw [Array.empty_append]
  rw [e2]
  exact wpAny_bind (wpAny_mkStr (wpAny_pure ⟨_, rfl, h _⟩) (by rw [ht]; decide))
theorem translate_keep {Q : Value → Shared → Prop} (hm : s.heap.MapOf (intKind prog w) d f) (hd : (d == sysModules) = false) (hh : A.handled = none) (hf : f (n : Int) = none) (hn : n < 128) (h : ∀ h' tk', KeepsH s.heap h' → Q (.str ⟨#[n]⟩ tk') { s with heap := h', toks := tk' + 1 }) :
    wpAny (model prog w) A (call (.builtin "str.translate") [.str ⟨#[n]⟩ tx, .ref d]) Q E s := by
  refine wpAny_call_entry F.slot_str_translate (typeIs_str _ _ _) F.entry_str_translate ?_ (F.args_str_translate_2 _ _)
  unfold Builtin.«str.translate»
  refine wpAny_bind (m := Builtin.Str.strOneArg "translate" _) (wpAny_pure ?_)
  dsimp only
  rw [if_neg (by show ¬ ((1 : Nat) == 0) = true; decide)]
  refine wpAny_bind ?_
  simp only [List.forIn_toArray, List.forIn_cons, List.forIn_nil]
  have hall : (#[n].all fun x => decide (x < 128)) = true := by simp [hn]
  refine wpAny_bind ?_
  rw [if_neg (by decide), if_pos hall]
  refine wpAny_bind (look_keep (A := A.in1) hm hd hh hf fun h' tk1 hk => ?_)
  dsimp only
  refine wpAny_bind (wpAny_pure (wpAny_pure (wpAny_pure ?_)))
  dsimp only
  rw [if_neg (by decide)]
  exact wpAny_bind (wpAny_mkStr (wpAny_pure ⟨_, rfl, h h' _ hk⟩) (by show (1 : Nat) ≤ sizeLine; decide))
end
end S_Tr
section S_FEsc
local macro_rules | `(tactic| walk_at "no rule") => `(tactic| skip)
noncomputable def f45 (k : Int) : Option Value := (es45.find? fun e => Value.isInt k e.key).map (·.val)
theorem keys45 {prog : Program} {w : World} : KeysOf (intKind prog w) es45.toArray := by
  have hall : es45.all (fun e => match e.key with | .int k _ => e.hash == hashInt k | _ => false) = true := by decide +kernel
  intro e he
  have h1 := List.all_eq_true.mp hall e (by simpa using he)
  split at h1
  · rename_i k t hk
    exact ⟨k, by rw [hk]; exact intKind_is _ _ _ _, eq_of_beq h1⟩
  · cases h1
theorem map45 {prog : Program} {w : World} {h : Heap} {P : Params} (ho : h.get? 45 = some (o45 P)) : h.MapOf (intKind prog w) 45 f45 :=
  ⟨_, es45.toArray, 24, ho, ⟨rfl, rfl, rfl⟩, rfl, keys45, fun k => by
    show (es45.toArray.find? _).map _ = _
    rw [List.find?_toArray]; rfl⟩
noncomputable def signs17 : List Nat := [97, 98, 42, 63, 91, 93, 33, 45, 94, 92, 38, 126, 124, 32, 36, 43, 46]
noncomputable def escL (n : Nat) : List Nat := if [97, 98, 33].contains n then [n] else [92, n]
noncomputable def vText : Option Value → Option PySem.Str
  | some (.str t _) => some t
  | _ => none
theorem f45_is : ∀ n ∈ signs17, (escL n = [n] ∧ f45 (n : Int) = none) ∨ (escL n = [92, n] ∧ vText (f45 (n : Int)) = some ⟨#[92, n]⟩) := by decide +kernel
theorem vText_some {o : Option Value} {t : PySem.Str} (h : vText o = some t) : ∃ tk, o = some (.str t tk) := by
  unfold vText at h
  split at h
  · cases h; exact ⟨_, rfl⟩
  · cases h
theorem translate45 {prog : Program} {w : World} {A : Around} {E : Value → Shared → Prop} {s : Shared} {P : Params} {n : Nat} {tx : Tok} {Q : Value → Shared → Prop} (ho : s.heap.get? 45 = some (o45 P)) (hh : A.handled = none) (hn : n ∈ signs17)
    (h : ∀ h' tk', KeepsH s.heap h' → Q (.str ⟨(escL n).toArray⟩ tk') { s with heap := h', toks := tk' + 1 }) : wpAny (model prog w) A (call (.builtin "str.translate") [.str ⟨#[n]⟩ tx, .ref 45]) Q E s := by
  have hlt : n < 128 := (by decide : ∀ n ∈ signs17, n < 128) n hn
  rcases f45_is n hn with ⟨e1, e2⟩ | ⟨e1, e2⟩
  · rw [e1] at h
    exact translate_keep (map45 ho) (by decide) hh e2 hlt h
  · rw [e1] at h
    obtain ⟨tk, e3⟩ := vText_some e2
    exact translate_text (map45 ho) e3 hlt rfl fun tk' => h _ _ fun _ _ e => e
theorem gm_translate {M : Model} {A : Around} {E : Value → Shared → Prop} {s : Shared} {x : PySem.Str} {t : Tok} {pl : Sem Bool} {Q : Value × List Value → Shared → Prop} (h : Q (.builtin "str.translate", [.str x t]) s) : wpAny M A (getMethod (.str x t) "translate" pl) Q E s := by
  with_reducible exact GM.of (.str x t) (typeIs_str _ _ _) F.slot_str_translate F.type_str_translate GM.noRef h
local macro_rules | `(tactic| walk_at "tT") => `(tactic| ((rename Fr _ _ _ _ => lF'); (rename News _ _ _ _ => lN'); intro h' tk' hk'; (have F' := Fr.keeps lF' hk'); (have N' := News.grown lN' hk'); clear lF' lN'; (try dsimp only)))
example : True := by
  k_with "getMethod str" => ((with_reducible refine gm_translate ?_; (try dsimp only)))
  k_with "call builtin:str.translate" => ((with_unfolding_all refine translate45 (Frag.In.keeps (by assumption) (Fr.keep (by assumption)) 45 _ (by k_is)) (by rfl) (by assumption) ?_; walk_at "tT"))
  trivial
theorem escape (w : World) (n : Nat) (tx : Tok) (news : Led) (hn : n ∈ signs17) : Fn w 990 55 [.str ⟨#[n]⟩ tx] news (fun r n' => (∃ t, r = .str ⟨(escL n).toArray⟩ t) ∧ n' = news) := by
  w_on
  refine fn_in ?_
  intro p loose mean mg mb dp un gd cn cs a ccd cl outer A₀ base h₀ L m shQ sgQ sdQ stQ soQ Q E B F X N T C1 C2 hk hd hu hret
  with_unfolding_all refine' code_my (binds := [(PySem.Str.ofString "pattern", .str ⟨#[n]⟩ tx)]) B F X N T C1 C2 ?kA ?kF ?kK ?ko ?est ?kcd ?kroom ?kbind ?kloc ?_ ?kco ?kgen ?kkind ?kcell
  (case kA => exact rfl)
  (case kF => exact rfl)
  (case kK => exact hk)
  (case ko => k_is)
  (case est => exact rfl)
  (case kcd => k_is)
  (case kroom => (show dp < 1000; omega))
  (case kbind => exact BindsTo.of_eq rfl)
  (case kloc => exact locs rfl)
  (case kco => exact rfl)
  (case kgen => exact rfl)
  (case kkind => exact rfl)
  (case kcell => decide)
  intro g' L' h' tk' FG' F' N' B' X' T' C1' C2' lt'
  clear F N FG'
  (try dsimp only)
  (try k_fold)
  k_steps
  all_goals first | exact hret _ _ _ _ (by assumption) (by assumption) ⟨⟨_, rfl⟩, rfl⟩ | w_report
end S_FEsc
section S_Lp
inductive F2 {α β : Type} (R : α → β → Prop) : List α → List β → Prop
  | nil : F2 R [] []
  | cons {a b l m} : R a b → F2 R l m → F2 R (a :: l) (b :: m)
namespace F2
variable {α β : Type} {R : α → β → Prop}
theorem length : ∀ {l : List α} {m : List β}, F2 R l m → l.length = m.length
  | _, _, .nil => rfl
  | _, _, .cons _ t => congrArg (· + 1) t.length
theorem append : ∀ {l : List α} {m : List β} {l' : List α} {m' : List β}, F2 R l m → F2 R l' m' → F2 R (l ++ l') (m ++ m')
  | _, _, _, _, .nil, t => t
  | _, _, _, _, .cons h t, t' => .cons h (t.append t')
theorem one {a : α} {b : β} (h : R a b) : F2 R [a] [b] := .cons h .nil
theorem snoc {l : List α} {m : List β} {a : α} {b : β} (t : F2 R l m) (h : R a b) : F2 R (l ++ [a]) (m ++ [b]) := t.append (one h)
theorem mono {S : α → β → Prop} (f : ∀ a b, R a b → S a b) : ∀ {l : List α} {m : List β}, F2 R l m → F2 S l m
  | _, _, .nil => .nil
  | _, _, .cons h t => .cons (f _ _ h) (t.mono f)
theorem split : ∀ {l l' : List α} {m : List β}, F2 R (l ++ l') m → ∃ m1 m2, m = m1 ++ m2 ∧ F2 R l m1 ∧ F2 R l' m2
  | [], _, m, t => ⟨[], m, rfl, .nil, t⟩
  | _ :: l, _, _, .cons h t => by
    obtain ⟨m1, m2, rfl, t1, t2⟩ := t.split
    exact ⟨_ :: m1, m2, rfl, .cons h t1, t2⟩
theorem get : ∀ {l : List α} {m : List β} (i : Nat) {a : α}, F2 R l m → l[i]? = some a → ∃ b, m[i]? = some b ∧ R a b
  | _, _, _, _, .nil, h => by simp at h
  | _, _, 0, _, .cons (b := b) h _, e => ⟨b, by simp, by simpa using (by simpa using e : _ = _) ▸ h⟩
  | _, _, i + 1, _, .cons _ t, e => by
    obtain ⟨b, h1, h2⟩ := t.get i (by simpa using e)
    exact ⟨b, by simpa using h1, h2⟩
theorem take (n : Nat) : ∀ {l : List α} {m : List β}, F2 R l m → F2 R (l.take n) (m.take n) := by
  induction n with
  | zero => intro l m _; simpa using F2.nil
  | succ n ih => intro l m t; cases t with
    | nil => simpa using F2.nil
    | cons h t => simpa using F2.cons h (ih t)
theorem drop (n : Nat) : ∀ {l : List α} {m : List β}, F2 R l m → F2 R (l.drop n) (m.drop n) := by
  induction n with
  | zero => intro l m t; simpa using t
  | succ n ih => intro l m t; cases t with
    | nil => simpa using F2.nil
    | cons h t => simpa using ih t
end F2
noncomputable def tx (l : List Nat) : PySem.Str := ⟨l.toArray⟩
theorem tx_length (l : List Nat) : (tx l).length = l.length := by simp [tx, PySem.Str.length]
noncomputable def TxtV (l : List Nat) (v : Value) : Prop := ∃ t, v = .str (tx l) t
noncomputable def HasI (m : PySem.Str → Option Value) (a : PySem.Str) (n : Int) : Prop := ∃ t, m a = some (.int n t)
theorem HasI.of {m : PySem.Str → Option Value} {a : PySem.Str} {k n : Int} {t : Tok} (e : m a = some (.int k t)) (h : k = n) : HasI m a n := ⟨t, h ▸ e⟩
noncomputable def Stop (P : Prop) : Prop := P
theorem Stop.mk {P : Prop} (h : Stop P) : P := h
theorem Stop.go {P : Prop} (h : P) : Stop P := h
section
variable {prog : Program} {w : World} {A : Around} {E : Value → Shared → Prop} {s : Shared} {env : Env} {h₀ : Heap}
noncomputable def AgainW (h₀ : Heap) (L : Addr) (s : Shared) (J : Nat → (PySem.Str → Option Value) → Led → Prop) (Q : Flow → Shared → Prop) (k : Nat) (f : Flow) (s₂ : Shared) : Prop :=
  match f with
  | .ret v => Q (.ret v) s₂
  | .brk => Q .next s₂
  | _ => ∃ k' h' tk' m' news', k' < k ∧ s₂ = { s with heap := h', toks := tk' } ∧ Fr h₀ L h' m' ∧ News h₀ L h' news' ∧ J k' m' news'
theorem AgainW.ret {L : Addr} {J : Nat → (PySem.Str → Option Value) → Led → Prop} {Q : Flow → Shared → Prop} {k : Nat} {v : Value} {s₂ : Shared} (h : Q (.ret v) s₂) : AgainW h₀ L s J Q k (.ret v) s₂ := h
theorem AgainW.brk {L : Addr} {J : Nat → (PySem.Str → Option Value) → Led → Prop} {Q : Flow → Shared → Prop} {k : Nat} {s₂ : Shared} (h : Q .next s₂) : AgainW h₀ L s J Q k .brk s₂ := h
theorem AgainW.next {L : Addr} {J : Nat → (PySem.Str → Option Value) → Led → Prop} {Q : Flow → Shared → Prop} {k k' : Nat} {h' : Heap} {tk' : Nat} {m' : PySem.Str → Option Value} {news news' : Led} (F : Fr h₀ L h' m') (N : News h₀ L h' news)
    (hk : k' < k) (hn : ∀ p ∈ news', p ∈ news) (hj : J k' m' news') : AgainW h₀ L s J Q k .next { s with heap := h', toks := tk' } := ⟨k', h', tk', m', news', hk, rfl, F, fun p hp => N p (hn p hp), hj⟩
theorem AgainW.cont {L : Addr} {J : Nat → (PySem.Str → Option Value) → Led → Prop} {Q : Flow → Shared → Prop} {k k' : Nat} {h' : Heap} {tk' : Nat} {m' : PySem.Str → Option Value} {news news' : Led} (F : Fr h₀ L h' m') (N : News h₀ L h' news)
    (hk : k' < k) (hn : ∀ p ∈ news', p ∈ news) (hj : J k' m' news') : AgainW h₀ L s J Q k .cont { s with heap := h', toks := tk' } := ⟨k', h', tk', m', news', hk, rfl, F, fun p hp => N p (hn p hp), hj⟩
noncomputable def WIf (b : Bool) (T F : Prop) : Prop := (b = true → T) ∧ (b = false → F)
theorem while_my {test : Expr} {body orelse : List Stmt} {pos : Pos} {Q : Flow → Shared → Prop} {m : PySem.Str → Option Value} {news all : Led} (J : Nat → (PySem.Str → Option Value) → Led → Prop) (k₀ : Nat)
    (F : Fr h₀ env.locals s.heap m) (N : News h₀ env.locals s.heap all) (hn : ∀ p ∈ news, p ∈ all) (hJ : J k₀ m news) (hE : PassesOwn (model prog w) A env E)
    (step : ∀ k m' news' h' tk', J k m' news' → Fr h₀ env.locals h' m' → News h₀ env.locals h' news' →
      wpAny (model prog w) A (isTrue test env (eval test env)) (fun b s₂ => WIf b (wpAny (model prog w) A (execs body env) (AgainW h₀ env.locals s J Q k) E s₂) (wpAny (model prog w) A (execs orelse env) Q E s₂)) E { s with heap := h', toks := tk' }) :
    wpAny (model prog w) A (exec (.While test body orelse pos) env) Q E s := by
  refine wpAny_While (codeAny_whileLoop (fun k s' => ∃ h' tk' m' news', s' = { s with heap := h', toks := tk' } ∧ Fr h₀ env.locals h' m' ∧ News h₀ env.locals h' news' ∧ J k m' news') ?_ k₀ ⟨s.heap, s.toks, m, news, rfl, F, fun p hp => N p (hn p hp), hJ⟩)
  rintro k s' ⟨h', tk', m', news', rfl, F', N', hJ'⟩
  refine wpAny_passesOwn hE (wpAny_mono (step k m' news' h' tk' hJ' F' N') (fun b s₂ h => ?_) fun _ _ e => e)
  cases b with
  | true =>
    simp only [if_true]
    refine wpAny_passesOwn hE (wpAny_mono (h.1 rfl) (fun f s₃ h₃ => ?_) fun _ _ e => e)
    cases f with
    | ret v => exact h₃
    | brk => exact h₃
    | next => obtain ⟨k', h', tk', m', news', hk, e, F, N, j⟩ := h₃; exact ⟨k', hk, h', tk', m', news', e, F, N, j⟩
    | cont => obtain ⟨k', h', tk', m', news', hk, e, F, N, j⟩ := h₃; exact ⟨k', hk, h', tk', m', news', e, F, N, j⟩
  | false =>
    simp only [Bool.false_eq_true, if_false]
    exact wpAny_passesOwn hE (h.2 rfl)
inductive FEnd (h₀ : Heap) (L : Addr) (s₁ : Shared) (its : Led) (J : (PySem.Str → Option Value) → Led → Prop) (s₂ : Shared) : Prop
  | mk (h' : Heap) (tk' : Nat) (m' : PySem.Str → Option Value) (news' : Led) (e : s₂ = { s₁ with heap := h', toks := tk' }) (F : Fr h₀ L h' m') (N : News h₀ L h' (its ++ news')) (off : ∀ p ∈ news', ∀ q ∈ its, p.1 ≠ q.1) (j : J m' news') : FEnd h₀ L s₁ its J s₂
noncomputable def AgainF (h₀ : Heap) (L : Addr) (s₁ : Shared) (its : Led) (J : (PySem.Str → Option Value) → Led → Prop) (Q : Flow → Shared → Prop) (f : Flow) (s₂ : Shared) : Prop :=
  match f with
  | .ret v => Q (.ret v) s₂
  | .brk => Q .next s₂
  | _ => FEnd h₀ L s₁ its J s₂
theorem AgainF.ret {L : Addr} {its : Led} {J : (PySem.Str → Option Value) → Led → Prop} {Q : Flow → Shared → Prop} {v : Value} {s₁ s₂ : Shared} (h : Q (.ret v) s₂) : AgainF h₀ L s₁ its J Q (.ret v) s₂ := h
theorem AgainF.brk {L : Addr} {its : Led} {J : (PySem.Str → Option Value) → Led → Prop} {Q : Flow → Shared → Prop} {s₁ s₂ : Shared} (h : Q .next s₂) : AgainF h₀ L s₁ its J Q .brk s₂ := h
theorem AgainF.next {L : Addr} {its : Led} {J : (PySem.Str → Option Value) → Led → Prop} {Q : Flow → Shared → Prop} {s₁ : Shared} {h' : Heap} {tk' : Nat} {m' : PySem.Str → Option Value} {all news' : Led} (F : Fr h₀ L h' m') (N : News h₀ L h' all)
    (h1 : ∀ p ∈ its, p ∈ all) (h2 : ∀ p ∈ news', p ∈ all) (off : ∀ p ∈ news', ∀ q ∈ its, p.1 ≠ q.1) (hj : J m' news') : AgainF h₀ L s₁ its J Q .next { s₁ with heap := h', toks := tk' } :=
  ⟨h', tk', m', news', rfl, F, fun p hp => N p ((List.mem_append.mp hp).elim (h1 p) (h2 p)), off, hj⟩
theorem AgainF.cont {L : Addr} {its : Led} {J : (PySem.Str → Option Value) → Led → Prop} {Q : Flow → Shared → Prop} {s₁ : Shared} {h' : Heap} {tk' : Nat} {m' : PySem.Str → Option Value} {all news' : Led} (F : Fr h₀ L h' m') (N : News h₀ L h' all)
    (h1 : ∀ p ∈ its, p ∈ all) (h2 : ∀ p ∈ news', p ∈ all) (off : ∀ p ∈ news', ∀ q ∈ its, p.1 ≠ q.1) (hj : J m' news') : AgainF h₀ L s₁ its J Q .cont { s₁ with heap := h', toks := tk' } :=
  ⟨h', tk', m', news', rfl, F, fun p hp => N p ((List.mem_append.mp hp).elim (h1 p) (h2 p)), off, hj⟩
end
section
variable {h₀ h : Heap} {L : Addr} {m : PySem.Str → Option Value}
theorem fr_to {m' : PySem.Str → Option Value} (F : Fr h₀ L h m) (e : ∀ y, m y = m' y) : Fr h₀ L h m' := by
  have : m = m' := funext e
  exact this ▸ F
theorem fr1 {a : PySem.Str} {v : Value} (F : Fr h₀ L h m) (e : m a = some v) : Fr h₀ L h (fun y => if y = a then some v else m y) :=
  fr_to F fun y => by
    by_cases h : y = a
    · subst h; simp [e]
    · simp [h]
end
noncomputable def mapK (m' m₀ : PySem.Str → Option Value) : List PySem.Str → PySem.Str → Option Value
  | [], y => m₀ y
  | a :: r, y => if y = a then m' a else mapK m' m₀ r y
noncomputable def KeptK (ns : List PySem.Str) (m₀ m' : PySem.Str → Option Value) : Prop := ∀ y, y ∉ ns → m' y = m₀ y
theorem mapK_eq {m' m₀ : PySem.Str → Option Value} : ∀ {ns : List PySem.Str}, KeptK ns m₀ m' → ∀ y, m' y = mapK m' m₀ ns y
  | [], h, y => h y List.not_mem_nil
  | a :: r, h, y => by
    unfold mapK
    by_cases e : y = a
    · rw [if_pos e, e]
    · rw [if_neg e]
      by_cases hy : y ∈ r
      · exact go r hy
      · exact (h y (fun h => (List.mem_cons.mp h).elim e hy)).trans (mapK_off r hy).symm
where
  go : ∀ (r : List PySem.Str) {y : PySem.Str}, y ∈ r → m' y = mapK m' m₀ r y
    | [], _, h => nomatch h
    | b :: r, y, h => by
      unfold mapK
      by_cases e : y = b
      · rw [if_pos e, e]
      · rw [if_neg e]; exact go r ((List.mem_cons.mp h).resolve_left e)
  mapK_off : ∀ (r : List PySem.Str) {y : PySem.Str}, y ∉ r → mapK m' m₀ r y = m₀ y
    | [], _, _ => rfl
    | b :: r, y, h => by
      unfold mapK
      have e' : y ≠ b := fun e => h (by rw [e]; exact List.mem_cons_self)
      rw [if_neg e', mapK_off r fun q => h (List.mem_cons_of_mem _ q)]
theorem keptK_map {m' m₀ : PySem.Str → Option Value} {ns : List PySem.Str} : KeptK ns m₀ (mapK m' m₀ ns) := fun _ hy => mapK_eq.mapK_off ns hy
theorem KeptK.refl (ns : List PySem.Str) (m : PySem.Str → Option Value) : KeptK ns m m := fun _ _ => rfl
theorem KeptK.put {m' m₀ : PySem.Str → Option Value} {ns : List PySem.Str} {a : PySem.Str} {v : Option Value} (h : KeptK ns m₀ m') (ha : a ∈ ns) : KeptK ns m₀ (fun y => if y = a then v else m' y) := fun y hy => by
  show (if y = a then v else m' y) = _
  have e' : y ≠ a := fun e => hy (by rw [e]; exact ha)
  rw [if_neg e']; exact h y hy
section
variable {prog : Program} {w : World} {A : Around} {E : Value → Shared → Prop} {s : Shared} {env : Env} {h₀ : Heap}
theorem while_k {test : Expr} {body orelse : List Stmt} {pos : Pos} {Q : Flow → Shared → Prop} {m : PySem.Str → Option Value} {all : Led} (ns : List PySem.Str) (J : Nat → (PySem.Str → Option Value) → Led → Prop) (k₀ : Nat) (news : Led)
    (F : Fr h₀ env.locals s.heap m) (N : News h₀ env.locals s.heap all) (hn : ∀ p ∈ news, p ∈ all) (hJ : J k₀ m news) (hE : PassesOwn (model prog w) A env E)
    (step : ∀ k m' news' h' tk' (QQ : Flow → Shared → Prop), J k m' news' → Fr h₀ env.locals h' (mapK m' m ns) → News h₀ env.locals h' news' →
      QUp (AgainW h₀ env.locals s (fun k m' n' => KeptK ns m m' ∧ J k m' n') Q k) QQ →
      wpAny (model prog w) A (isTrue test env (eval test env)) (fun b s₂ => WIf b (wpAny (model prog w) A (execs body env) QQ E s₂) (wpAny (model prog w) A (execs orelse env) Q E s₂)) E { s with heap := h', toks := tk' }) :
    wpAny (model prog w) A (exec (.While test body orelse pos) env) Q E s :=
  while_my (fun k m' n' => KeptK ns m m' ∧ J k m' n') k₀ F N hn ⟨fun _ _ => rfl, hJ⟩ hE fun k m' news' h' tk' hj F' N' => step k m' news' h' tk' _ hj.2 (fr_to F' (mapK_eq hj.1)) N' QUp.rfl'
end
local macro_rules | `(tactic| walk_at "AgainW") => `(tactic| first | (with_reducible refine AgainW.ret ?_) | (with_reducible refine AgainW.brk ?_))
end S_Lp
section S_Sq
structure At (x : PySem.Str) (i : Int) (c : Nat) : Prop where
  lo : 0 ≤ i
  hi : i < x.length
  small : x.length ≤ 100000
  get : x.cps[i.toNat]? = some c
theorem At.of {l pre post : List Nat} {c : Nat} (e : l = pre ++ c :: post) (hs : l.length ≤ 100000) : At (tx l) (pre.length : Nat) c := by
  subst e
  refine ⟨by omega, ?_, by rw [tx_length]; exact hs, ?_⟩
  · rw [tx_length]; simp; omega
  · simp [tx]
theorem At.of' {l pre post : List Nat} {c : Nat} {i : Int} (e : l = pre ++ c :: post) (hs : l.length ≤ 100000) (hi : i = (pre.length : Nat)) : At (tx l) i c := hi ▸ At.of e hs
section
variable {prog : Program} {w : World} {A : Around} {E : Value → Shared → Prop} {s : Shared} {value slice : Expr} {h₀ : Heap} {L : Addr} {m : PySem.Str → Option Value} {news : Led} {x y : PySem.Str} {t : Tok} {Q : Value → Shared → Prop}
theorem sub_at {i : Int} {u : Tok} {c : Nat} (H : At x i c) (h : Q (.str ⟨#[c]⟩ s.toks) { s with toks := s.toks + 1 })
    (hs : subscripted slice false (.str x t) (.int i u) = operate [.str x t, .int i u] (getItem (.str x t) (.int i u)) := by with_unfolding_all rfl)
    (ht : ∀ r, letTemporaryGo value (.str x t) r = pure () := by intro _; with_unfolding_all rfl) :
    wpAny (model prog w) A (subscriptTail value slice (.str x t) (.int i u)) Q E s := by
  have e : Txt.item x i = ⟨#[c]⟩ := item_meets H.lo H.get
  have h3 := H.small
  have h4 := H.hi
  have h5 := H.lo
  exact item_str (fitsSsize_of (N := 9223372036854775808) (by omega) (by omega) (Int.le_refl _)) (by omega) h4 (fun _ => by rw [e]; exact h) hs ht
theorem slN_ss {i j : Int} {ui uj : Tok} (hF : Fr h₀ L s.heap m) (hN : News h₀ L s.heap news) (hy : Txt.slice x (some i) (some j) = y) (h : ∀ h' t' k, Fr h₀ L h' m → News h₀ L h' news → Q (.str y t') { s with heap := h', toks := k })
    (hs : subscripted slice false (.str x t) (.ref s.heap.objs.size) = operate [.ref s.heap.objs.size, .str x t] (getItem (.str x t) (.ref s.heap.objs.size)) := by with_unfolding_all rfl)
    (ht : ∀ r, letTemporaryGo value (.str x t) r = pure () := by intro _; with_unfolding_all rfl) (hsz : x.length ≤ sizeLine := by size_fits) :
    wpAny (model prog w) A (subscriptTail value slice (.str x t) (.ref s.heap.objs.size)) Q E { s with heap := s.heap.push { cls := .type "slice", data := .fields #[.int i ui, .int j uj, .none] } } :=
  slice_strN_ss hF hN (fun h' t' k a b => by rw [hy]; exact h h' t' k a b) hs ht hsz
theorem slN_ns {j : Int} {uj : Tok} (hF : Fr h₀ L s.heap m) (hN : News h₀ L s.heap news) (hy : Txt.slice x none (some j) = y) (h : ∀ h' t' k, Fr h₀ L h' m → News h₀ L h' news → Q (.str y t') { s with heap := h', toks := k })
    (hs : subscripted slice false (.str x t) (.ref s.heap.objs.size) = operate [.ref s.heap.objs.size, .str x t] (getItem (.str x t) (.ref s.heap.objs.size)) := by with_unfolding_all rfl)
    (ht : ∀ r, letTemporaryGo value (.str x t) r = pure () := by intro _; with_unfolding_all rfl) (hsz : x.length ≤ sizeLine := by size_fits) :
    wpAny (model prog w) A (subscriptTail value slice (.str x t) (.ref s.heap.objs.size)) Q E { s with heap := s.heap.push { cls := .type "slice", data := .fields #[.none, .int j uj, .none] } } :=
  slice_strN_ns hF hN (fun h' t' k a b => by rw [hy]; exact h h' t' k a b) hs ht hsz
theorem slN_sn {i : Int} {ui : Tok} (hF : Fr h₀ L s.heap m) (hN : News h₀ L s.heap news) (hy : Txt.slice x (some i) none = y) (h : ∀ h' t' k, Fr h₀ L h' m → News h₀ L h' news → Q (.str y t') { s with heap := h', toks := k })
    (hs : subscripted slice false (.str x t) (.ref s.heap.objs.size) = operate [.ref s.heap.objs.size, .str x t] (getItem (.str x t) (.ref s.heap.objs.size)) := by with_unfolding_all rfl)
    (ht : ∀ r, letTemporaryGo value (.str x t) r = pure () := by intro _; with_unfolding_all rfl) (hsz : x.length ≤ sizeLine := by size_fits) :
    wpAny (model prog w) A (subscriptTail value slice (.str x t) (.ref s.heap.objs.size)) Q E { s with heap := s.heap.push { cls := .type "slice", data := .fields #[.int i ui, .none, .none] } } :=
  slice_strN_sn hF hN (fun h' t' k a b => by rw [hy]; exact h h' t' k a b) hs ht hsz
theorem isList_of {l : Addr} {xs : Array Value} {k : Nat} (N : News h₀ L s.heap news) (hm : (l, W.listOf xs k) ∈ news) : s.heap.IsList l xs := ⟨_, (N _ hm).1, rfl, k, rfl⟩
theorem truthyL {l : Addr} {xs : Array Value} {k : Nat} {Q : Bool → Shared → Prop} {b : Bool} (N : News h₀ L s.heap news) (hm : (l, W.listOf xs k) ∈ news) (hsz : xs.size ≤ 100000) (hb : (!xs.isEmpty) = b)
    (h : Q b { s with toks := s.toks + 1 + 1 }) : wpAny (model prog w) A (truthy (.ref l)) Q E s := wpAny_truthy_list (isList_of N hm) (by omega) (by rw [hb]; exact h)
noncomputable def ItemAt (xs : Array Value) (i : Int) (v : Value) : Prop := xs.size ≤ 100000 ∧ ((0 ≤ i ∧ xs[i.toNat]? = some v) ∨ (i < 0 ∧ -(xs.size : Int) ≤ i ∧ xs[(i + xs.size).toNat]? = some v))
theorem item_my {l : Addr} {xs : Array Value} {k : Nat} {i : Int} {u : Tok} {v : Value} (N : News h₀ L s.heap news) (hm : (l, W.listOf xs k) ∈ news) (H : ItemAt xs i v) (h : Q v s)
    (hs : subscripted slice false (.ref l) (.int i u) = operate [.ref l, .int i u] (getItem (.ref l) (.int i u)) := by with_unfolding_all rfl) (hg : ∀ r, letTemporaryGo value (.ref l) r = pure () := by intro _; with_unfolding_all rfl) :
    wpAny (model prog w) A (subscriptTail value slice (.ref l) (.int i u)) Q E s := by
  obtain ⟨hsz, ⟨h0, hx⟩ | ⟨h0, h1, hx⟩⟩ := H
  · have : i.toNat < xs.size := by
      rcases Nat.lt_or_ge i.toNat xs.size with h | h
      · exact h
      · rw [Array.getElem?_eq_none h] at hx; cases hx
    exact item_list (isList_of N hm) h0 (by omega) hx h hs hg
  · exact subscriptTail_builtin (isList_of N hm).typeIs slot_list_getitem.lookup (wpAny_getItem_list_neg (isList_of N hm) h0 h1 (by omega) hx h) hs hg
theorem len_my {l : Addr} {xs : Array Value} {k : Nat} {n : Int} (N : News h₀ L s.heap news) (hm : (l, W.listOf xs k) ∈ news) (hsz : xs.size ≤ 100000) (hn : ((xs.size : Nat) : Int) = n)
    (h : Q (.int n (s.toks + 1)) { s with toks := s.toks + 1 + 1 }) : wpAny (model prog w) A (call (.builtin "len") [.ref l]) Q E s := len_list (isList_of N hm) (by omega) (by rw [hn]; exact h)
end
theorem slice_of {l pre mid post : List Nat} {i j : Int} (e : l = pre ++ (mid ++ post)) (hi : i = (pre.length : Nat)) (hj : j = ((pre.length + mid.length : Nat) : Int)) : Txt.slice (tx l) (some i) (some j) = tx mid := by
  have h := slice_closes (x := tx l) (i := i) (j := j) ⟨by omega, by omega, by subst e; simp [tx]; omega⟩
  have h2 := eq_of_beq h
  rw [h2]
  unfold tx
  congr 1
  congr 1
  subst e hi hj
  have e1 : ((pre.length : Nat) : Int).toNat = pre.length := by omega
  have e2 : (((pre.length + mid.length : Nat) : Int) - ((pre.length : Nat) : Int)).toNat = mid.length := by omega
  rw [e1, e2]
  simp
theorem replace_no {prog : Program} {w : World} {A : Around} {E : Value → Shared → Prop} {s : Shared} {x y z : PySem.Str} {t u v : Tok} {Q : Value → Shared → Prop} (hc : (Builtin.Str.occurrences x y 0 x.length (x.length + 1)).isEmpty = true)
    (h : Q (.str x t) s) : wpAny (model prog w) A (call (.builtin "str.replace") [.str x t, .str y u, .str z v]) Q E s := by
  refine call_gives F.slot_str_replace (typeIs_str _ _ _) F.entry_str_replace (F.args_str_replace_3 _ _ _) (gives_str_replace x y z t u v fun hn => ?_) ?_
  · rw [hc] at hn; simp at hn
  · rw [hc]; simp only [Bool.true_or, if_true]; exact h
theorem Sub.refl {l : Led} : ∀ p ∈ l, p ∈ l := fun _ h => h
theorem Sub.cons {a : Addr × Obj} {l m : Led} (h : a ∈ m) (t : ∀ p ∈ l, p ∈ m) : ∀ p ∈ a :: l, p ∈ m := fun p hp => (List.mem_cons.mp hp).elim (fun e => e ▸ h) (t p)
theorem Sub.skip {a : Addr × Obj} {l m : Led} (t : ∀ p ∈ l, p ∈ m) : ∀ p ∈ l, p ∈ a :: m := fun p hp => List.mem_cons_of_mem _ (t p hp)
theorem AllLt.mem {d : Addr} : ∀ {l : Led}, AllLt d l → ∀ p ∈ l, p.1 < d
  | [], _, _, h => nomatch h
  | _ :: _, x, _, h => (List.mem_cons.mp h).elim (fun e => e ▸ x.1) (fun h => AllLt.mem x.2 _ h)
end S_Sq
section S_Sub
theorem slot_pat_sub : Slot "re.Pattern" "sub" "re.Pattern.sub" :=
  .of (owner := "re.Pattern") (n := "sub") (lkQ (by kernel_rfl)) (by kernel_rfl) (by kernel_rfl) (by kernel_rfl) (.inr (kindQ (by kernel_rfl))) (subQ (by kernel_rfl))
theorem type_pat_sub : typeOf (.builtin "re.Pattern.sub") = pure (.type "method_descriptor") := by show builtinType _ = _; rw [builtinType_eq_fast]; kernel_rfl
theorem entry_pat_sub : entryFor table "re.Pattern.sub" = some Builtin.«re.Pattern.sub» := entryFor_of_tree (by kernel_rfl)
theorem entry_pat_loop : entryFor table "re.Pattern.sub.loop" = some Builtin.«re.Pattern.sub.loop» := entryFor_of_tree (by kernel_rfl)
theorem args_pat_sub (a b c : Value) : argsOk "re.Pattern.sub" ⟨[a, b, c], []⟩ := argQ (by kernel_rfl)
theorem quiet_loop {as : Args} : (Code.builtin "re.Pattern.sub.loop" as).quiet = true := Code.quiet_builtin _ (by decide +kernel)
theorem getMethod_sub {M : Model} {A : Around} {E : Value → Shared → Prop} {s : Shared} {a : Addr} {o : Obj} {pl : Sem Bool} {Q : Value × List Value → Shared → Prop} (ho : s.heap.get? a = some o) (hc : o.cls = .type "re.Pattern") (hd : o.dict = none)
    (h : Q (.builtin "re.Pattern.sub", [.ref a]) s) : wpAny M A (getMethod (.ref a) "sub" pl) Q E s :=
  getMethod_builtin (T := "re.Pattern") ⟨o, ho, hc⟩ plainAttrs_pat slot_pat_sub type_pat_sub (fun b e => by cases e; exact ⟨o, ho, hd⟩) h
noncomputable def c36 : Array Nat := #[14, 14, 4, 1, 1, 9, 0, 64, 0, 1342177280, 0, 0, 0, 0, 0, 17, 0, 13, 11, 9, 0, 64, 0, 1342177280, 0, 0, 0, 0, 0, 17, 1, 1]
noncomputable def arr35 : Array Value := (c36.toList.map fun n => Value.int (n : Nat) 0).toArray
theorem code35 : (arr35.map Builtin.Re.reRawOf).map (fun x => x.toNat) = c36 := by
  unfold arr35
  rw [List.map_toArray, List.map_toArray]
  rfl
theorem arr35_is (P : Params) : ((o35 P).data) = .seq arr35 0 := by kernel_rfl
theorem fails36 (c : Nat) (hc : c = 42 ∨ c = 63 ∨ c = 91) : Fails (Sre.forSearch c36 #[c] 1 0 1 false) := by
  rcases hc with rfl | rfl | rfl <;> exact ⟨20, by decide, by kernel_rfl⟩
theorem lk_function_call : typeLookup (.type "function") "__call__" = pure (some (.builtin "function.__call__")) := lkQ (by kernel_rfl)
section
variable {prog : Program} {w : World} {A : Around} {E : Value → Shared → Prop} {s : Shared} {t : Tok} {P : Params} {c : Nat}
theorem named_sub {v u : Value} {Q : List (Option Value) → Shared → Prop} (h : Q [some v, some u, none] s) :
    wpAny (model prog w) A (Builtin.Re.reNamed "re.Pattern.sub" "sub" ["repl", "string", "count"] 2 [v, u] []) Q E s := by
  have e : Builtin.Re.reNamed "re.Pattern.sub" "sub" ["repl", "string", "count"] 2 [v, u] [] = pure [some v, some u, none] := rfl
  rw [e]; exact wpAny_pure h
theorem whole36 {Q : Builtin.Re.ReTarget → Shared → Prop} (ho : s.heap.get? 36 = some (o36 P)) (hc : s.heap.get? 35 = some (o35 P))
    (h : Q { pattern := .ref 36, string := .str ⟨#[c]⟩ t, code := c36, text := #[c], kind := 0, groups := 1, pos := 0, lim := 1 } s) :
    wpAny (model prog w) A (Builtin.Re.reWholeTarget (.ref 36) (.str ⟨#[c]⟩ t)) Q E s := by
  unfold Builtin.Re.reWholeTarget
  refine wpAny_bind (wpAny_fieldsOf ho rfl ?_)
  refine wpAny_bind (m := Builtin.Re.reTextOf (.str ⟨#[c]⟩ t)) (wpAny_pure ?_)
  refine wpAny_bind (m := pure PUnit.unit) (wpAny_pure ?_)
  refine wpAny_bind ?_
  unfold Builtin.Re.reRawItems
  refine wpAny_bind ?_
  show wpAny _ _ (do match (← load 35).data with | .seq xs _ => pure (some xs) | _ => pure none) _ _ _
  refine wpAny_bind (wpAny_load hc ?_)
  rw [arr35_is P]
  refine wpAny_pure (wpAny_pure (wpAny_pure ?_))
  have e : Array.map (fun x => x.toNat) (Array.map Builtin.Re.reRawOf ((some arr35).getD #[])) = c36 := code35
  rw [e]
  exact h
theorem join_one {l : Addr} {x y : PySem.Str} {tx ty : Tok} {Q : Value → Shared → Prop} {k : Nat} (hl : s.heap.get? l = some (W.listOf #[.str y ty] k)) (h : Q (.str y ty) s) : wpAny (model prog w) A (call (.builtin "str.join") [.str x tx, .ref l]) Q E s := by
  refine wpAny_call_entry F.slot_str_join (typeIs_str _ _ _) F.entry_str_join ?_ (F.args_str_join_2 _ _)
  have hT : s.TypeIs (.ref l) "list" := ⟨_, hl, rfl⟩
  unfold Builtin.«str.join»
  repeat (any_goals (first | assumption | wp_step))
  exact ⟨_, rfl, h⟩
theorem loop_one {Q : Fin → Shared → Prop} {l : Addr} {lam : Value} (ho : s.heap.get? 36 = some (o36 P)) (hc : s.heap.get? 35 = some (o35 P)) (hl : s.heap.get? l = some (W.listOf #[] 0)) (hcc : c = 42 ∨ c = 63 ∨ c = 91)
    (h : ∀ h' tk t', (∀ b o, b ≠ l → s.heap.get? b = some o → h'.get? b = some o) → Q (.done (.ret (.str ⟨#[c]⟩ t'))) { s with heap := h', toks := tk }) :
    wpAny (model prog w) A (Builtin.«re.Pattern.sub.loop» ⟨[.ref 36, .str ⟨#[c]⟩ t, lam, .int 1 0, .int 0 0, .int 0 0, .int 0 0, .int 0 0, .bool false, .ref l, .bool false], []⟩) Q E s := by
  unfold Builtin.«re.Pattern.sub.loop»
  refine wpAny_bind (whole36 ho hc ?_)
  have hf := fails36 c hcc
  repeat (any_goals (first | assumption | ((with_reducible show wpAny _ _ (Builtin.Re.reNextFound _ _ _) _ _ _); refine toEnd_fail hf ?_) | ((with_reducible show wpAny _ _ (call _ _ _) _ _ _); refine Stop.mk ?_) | wp_step))
  refine Stop.go ?_
  have e1 : (s.heap.update l (Obj.mapSeq fun x => x.push (.str ⟨#[c]⟩ s.toks))).get? l = some (W.listOf #[.str ⟨#[c]⟩ s.toks] 1) := by
    rw [Heap.get?_update_self _ hl (by rw [mapSeq_push]; rfl), mapSeq_push]
    rfl
  refine join_one (s := { s with heap := s.heap.update l (Obj.mapSeq fun x => x.push (.str ⟨#[c]⟩ s.toks)), toks := _ }) (y := ⟨#[c]⟩) (ty := s.toks) e1 ?_
  refine wpAny_pure (h _ _ _ fun b o hb e => ?_)
  exact (Heap.SameBut.update ..).extBut b o hb e
theorem type_lam {s : Shared} {lam : Addr} {o : Obj} (hl : s.heap.get? lam = some o) (hc : o.cls = .type "function") : s.TypeIs (.ref lam) "function" := ⟨_, hl, hc⟩
theorem call_sub {Q : Value → Shared → Prop} {lam : Addr} {oL : Obj} (ho : s.heap.get? 36 = some (o36 P)) (hc : s.heap.get? 35 = some (o35 P)) (hl : s.heap.get? lam = some oL) (hlc : oL.cls = .type "function") (hcc : c = 42 ∨ c = 63 ∨ c = 91)
    (h : ∀ h' tk t', (∀ b o, s.heap.get? b = some o → h'.get? b = some o) → Q (.str ⟨#[c]⟩ t') { s with heap := h', toks := tk }) :
    wpAny (model prog w) A (call (.builtin "re.Pattern.sub") [.ref 36, .ref lam, .str ⟨#[c]⟩ t]) Q E s := by
  refine wpAny_call (codeAny_call_builtin slot_pat_sub.plain entry_pat_sub (slot_pat_sub.check _ _ _ _ _ _ _ _ (show s.TypeIs (.ref 36) "re.Pattern" from ⟨_, ho, rfl⟩) (args_pat_sub _ _ _) ?_))
  have hT : s.TypeIs (.ref lam) "function" := ⟨_, hl, hlc⟩
  have f1 := lk_function_call
  have f2 : isSubtype (.type "str") (.type "bytearray") = pure false := subQ (by kernel_rfl)
  have f3 : s.TypeIs (.str ⟨#[c]⟩ t) "str" := typeIs_str _ _ _
  unfold Builtin.«re.Pattern.sub» Builtin.Re.reSubstitute
  refine wpAny_bind (named_sub ?_)
  refine wpAny_bind (wpAny_pure ?_)
  refine wpAny_bind (wpAny_specialOf hT f1 ?_)
  refine wpAny_bind (wpAny_pure ?_)
  refine wpAny_bind (wpAny_pure ?_)
  refine wpAny_bind (wpAny_holding (whole36 ho hc ?_))
  repeat (any_goals (first | assumption | wp_step))
  refine ⟨quiet_loop, codeAny_builtin entry_pat_loop (loop_one (P := P) (Heap.get?_push_of_some _ ho) (Heap.get?_push_of_some _ hc) (Heap.get?_push_size _ rfl) hcc fun h' tk t' hk => ?_)⟩
  exact h h' tk t' fun b o e => hk b o (Nat.ne_of_lt (Heap.lt_size e)) (Heap.get?_push_of_some _ e)
end
noncomputable def TabOk (ps : Array Value) : Prop := ps = #[] ∨ ∃ c' : Addr, ps = #[rawInt 63, rawInt 39, .ref c']
section
variable {M : Model} {A : Around} {E : Value → Shared → Prop} {s : Shared} {h₀ : Heap} {L a : Addr} {m mg mb : PySem.Str → Option Value} {cn : PySem.Str} {cs : Scope} {ccd : Value} {cl : List (PySem.Str × Addr)} {news : Led} {g : Obj → Led}
  {p : Program} {loose : List PySem.Str} {mean : ExcName → Option Value} {params : Arguments} {body : Expr} {scope : Scope} {ps : Array Value} {pos : Pos} {clos : List (PySem.Str × Addr)}
theorem lam_my {Q : Value → Shared → Prop} (F : Fr h₀ L s.heap m) (N : News h₀ L s.heap news) (T : Top p loose mean mg mb h₀) (C : CodeHd h₀ 61 57) (hcd : ccd = .ref 61) (U : UpdF 57 (tabObj ps) news g) (ok : TabOk ps) (hl : pos.line = 63) (hc : pos.col = 39)
    (hcl : closureFor scope (envX cn cs L a ccd cl) = pure clos) (hdef : defaultsOf params (envX cn cs L a ccd cl) = ([], []))
    (h : ∀ f o h' tk ps', TabOk ps' → o.cls = .type "function" → Fr h₀ L h' m → News h₀ L h' ((f, o) :: g (tabObj ps')) → (∀ q ∈ news, q.1 < f) → Q (.ref f) { s with heap := h', toks := tk }) :
    wpAny M A (eval (.Lambda params body scope pos) (envX cn cs L a ccd cl)) Q E s := by
  refine kla_eval hdef ?_
  rcases ok with rfl | ⟨c', rfl⟩
  · refine kla_nest F N T C hcd U trivial rfl hcl ?_
    intro f c' oc vs t ctv h' tk F' N' e1 e2 l1 l2
    generalize hO : kla_obj _ _ _ _ _ _ _ _ _ = o at N'
    refine h f o h' tk (#[] ++ #[rawInt pos.line, rawInt pos.col, .ref c']) (.inr ⟨c', ?_⟩) (by rw [← hO]) F' (fun q hq => ?_) (fun q hq => Nat.lt_trans (l1 q hq) l2)
    · rw [hl, hc]; rfl
    · rcases List.mem_cons.mp hq with rfl | hq
      · exact N' _ List.mem_cons_self
      · exact N' _ (List.mem_cons_of_mem _ (List.mem_cons_of_mem _ hq))
  · have hm : ∃ q ∈ news, q = (57, tabObj #[rawInt 63, rawInt 39, Value.ref c']) := by
      obtain ⟨own, rest, rfl, hg, _, _⟩ := U.split
      exact ⟨_, List.mem_append_right _ List.mem_cons_self, rfl⟩
    obtain ⟨q, hq, rfl⟩ := hm
    refine kla_hit (c' := c') F N T C hcd hq (by simp [TriplesOk, rawInt]) (by simp [codeAmong, rawInt, hl, hc]) hcl ?_
    intro f ctv h' tk F' N' l1
    generalize hO : kla_obj _ _ _ _ _ _ _ _ _ = o at N'
    refine h f o h' tk _ (.inr ⟨c', rfl⟩) (by rw [← hO]) F' ?_ l1
    obtain ⟨own, rest, e1, hg, _, _⟩ := U.split
    rw [hg, ← e1]
    exact N'
end
end S_Sub
section S_Bnd
namespace F
theorem typeOf_list_append : typeOf (.builtin "list.append") = pure (.type "method_descriptor") := (congrFun Fast.te14684505520029207082 _).trans (by kernel_rfl)
theorem slot_md_get : Slot "method_descriptor" "__get__" "method_descriptor.__get__" :=
  .of (owner := "method_descriptor") (n := "__get__") (lkQ (by kernel_rfl)) (by kernel_rfl) (by kernel_rfl) (by kernel_rfl) (.inl (kindQ (by kernel_rfl))) (subQ (by kernel_rfl))
theorem md_set_none : typeLookup (.type "method_descriptor") "__set__" = pure none := lkQ (by kernel_rfl)
theorem md_del_none : typeLookup (.type "method_descriptor") "__delete__" = pure none := lkQ (by kernel_rfl)
theorem entry_md_get : entryFor table "method_descriptor.__get__" = some Builtin.«method_descriptor.__get__» := entryFor_of_tree (by kernel_rfl)
theorem args_md_get (a b c : Value) : argsOk "method_descriptor.__get__" ⟨[a, b, c], []⟩ := argQ (by kernel_rfl)
theorem lk_list_append : typeLookup (.type "list") "append" = pure (some (.builtin "list.append")) := lkQ (by kernel_rfl)
theorem owner_list_append : (".".intercalate ("list.append".cutAt '.').dropLast) = "list" := by
  have e0 : "list.append".cutAt '.' = ["list", "append"] := by first | rfl | decide +kernel
  rw [e0]; decide +kernel
theorem sub_list_owner : isSubtype (.type "list") (.type (".".intercalate ("list.append".cutAt '.').dropLast)) = pure true := by
  rw [owner_list_append, isSubtype_type]; kernel_rfl
end F
noncomputable abbrev appO (l : Addr) : Obj := { cls := .type "builtin_function_or_method", data := .fields #[.builtin "list.append", .ref l] }
section
variable {prog : Program} {w : World} {A : Around} {E : Value → Shared → Prop} {h : Heap} {g : Array GenState} {d : Drawn} {t : Nat} {os : OsState} {a : Addr} {o : Obj}
theorem app_get {R : Result → Shared → Prop} (hx : h.get? a = some o) (hc : o.cls = .type "list") (hq : R (.ok (.ret (.ref h.objs.size))) ⟨h.push (appO a), g, d, t, os⟩) :
    codeAny (model prog w) A (.call (.builtin "method_descriptor.__get__") ⟨[.builtin "list.append", .ref a, .type "list"], []⟩) R ⟨h, g, d, t, os⟩ := by
  have hT : (⟨h, g, d, t, os⟩ : Shared).TypeIs (.ref a) "list" := ⟨_, hx, hc⟩
  have hT5 : (⟨h, g, d, t, os⟩ : Shared).TypeIs (.builtin "list.append") "method_descriptor" := F.typeOf_list_append
  have f8 := F.sub_list_owner
  refine codeAny_call_builtin F.slot_md_get.plain F.entry_md_get (F.slot_md_get.check _ _ _ _ _ _ _ _ hT5 (F.args_md_get _ _ _) ?_)
  repeat (any_goals (first | assumption | wp_step))
theorem app_entry {tk : Tok} {Q : Fin → Shared → Prop} {xs : Array Value} {k : Nat} (hx : h.get? a = some o) (hc : o.cls = .type "list") (hdat : o.data = .seq xs k) (hd : o.dict = none) (hq : Q (.done (.ret (.ref h.objs.size))) ⟨h.push (appO a), g, d, t, os⟩) :
    wpAny (model prog w) A (Builtin.«object.__getattribute__» ⟨[.ref a, .str "append" tk], []⟩) Q E ⟨h, g, d, t, os⟩ := by
  obtain ⟨c, dct, dat, sl⟩ := o
  simp only at hc hdat hd
  subst hc hdat hd
  have hc : (Value.type "list") = .type "list" := rfl
  have hT : (⟨h, g, d, t, os⟩ : Shared).TypeIs (.ref a) "list" := ⟨_, hx, hc⟩
  have hT5 : (⟨h, g, d, t, os⟩ : Shared).TypeIs (.builtin "list.append") "method_descriptor" := F.typeOf_list_append
  have f4 := F.lk_list_append
  have f5 := F.typeOf_list_append
  have f6 := F.slot_md_get.lookup
  have f7 := F.md_set_none
  have f8 := F.md_del_none
  repeat (any_goals (first | assumption | wp_step))
  refine app_get hx hc ?_
  repeat (any_goals (first | assumption | wp_step))
theorem app_call {tk : Tok} {R : Result → Shared → Prop} {xs : Array Value} {k : Nat} (hx : h.get? a = some o) (hc : o.cls = .type "list") (hdat : o.data = .seq xs k) (hd : o.dict = none) (hq : R (.ok (.ret (.ref h.objs.size))) ⟨h.push (appO a), g, d, t, os⟩) :
    codeAny (model prog w) A (.call (.builtin "list.__getattribute__") ⟨[.ref a, .str "append" tk], []⟩) R ⟨h, g, d, t, os⟩ :=
  codeAny_call_builtin F.slot_list_getattribute.plain F.entry_list_ga (F.slot_list_getattribute.check _ _ _ _ _ _ _ _ (show (⟨h, g, d, t, os⟩ : Shared).TypeIs (.ref a) "list" from ⟨_, hx, hc⟩) (F.args_list_getattribute_2 _ _) (app_entry hx hc hdat hd hq))
theorem app_by {tk : Tok} {Q : Value → Shared → Prop} {xs : Array Value} {k : Nat} (hx : h.get? a = some o) (hc : o.cls = .type "list") (hdat : o.data = .seq xs k) (hd : o.dict = none) (hq : Q (.ref h.objs.size) ⟨h.push (appO a), g, d, t, os⟩) : wpAny (model prog w) A (getAttrBy (.ref a) (.str "append" tk) true true) Q E ⟨h, g, d, t, os⟩ := by
  have hT : (⟨h, g, d, t, os⟩ : Shared).TypeIs (.ref a) "list" := ⟨_, hx, hc⟩
  have f2 := F.slot_list_getattribute.lookup
  have f3 := F.slot_list_getattribute.bind (.ref a)
  repeat (any_goals (first | assumption | wp_step))
  refine app_call hx hc hdat hd ?_
  repeat (any_goals (first | assumption | wp_step))
theorem app_attr {Q : Value → Shared → Prop} {xs : Array Value} {k : Nat} (hx : h.get? a = some o) (hc : o.cls = .type "list") (hdat : o.data = .seq xs k) (hd : o.dict = none) (hq : Q (.ref h.objs.size) ⟨h.push (appO a), g, d, t + 1, os⟩) : wpAny (model prog w) A (getAttr (.ref a) "append" true) Q E ⟨h, g, d, t, os⟩ := by
  unfold getAttr
  exact wpAny_bind (wpAny_mkText (app_by hx hc hdat hd hq))
end
section
variable {prog : Program} {w : World} {A : Around} {E : Value → Shared → Prop} {s : Shared} {h₀ : Heap} {L a q : Addr} {m : PySem.Str → Option Value} {news news' : Led} {o : Obj} {Q : Value → Shared → Prop}
theorem attr_append {xs : Array Value} {k : Nat} (F : Fr h₀ L s.heap m) (N : News h₀ L s.heap news) (hm : (a, W.listOf xs k) ∈ news)
    (h : ∀ q h', Fr h₀ L h' m → News h₀ L h' ((q, appO a) :: news) → (∀ p ∈ news, p.1 < q) → Q (.ref q) { s with heap := h', toks := s.toks + 1 }) : wpAny (model prog w) A (getAttr (.ref a) "append" true) Q E s := by
  obtain ⟨hp, g, d, t, os⟩ := s
  exact app_attr (N _ hm).1 rfl rfl rfl (h _ _ (F.push _) (N.push F _) fun p hp => Heap.lt_size (N p hp).1)
theorem quiet_app {as : Args} : (Code.builtin "list.append" as).quiet = true := Code.quiet_builtin _ (by decide +kernel)
theorem sub_list_module : isSubtype (.type "list") (.type "module") = pure false := subQ (by kernel_rfl)
theorem check_app {x : Value} {o' : Obj} {P : Unit → Shared → Prop} {xs : Array Value} {k : Nat} (ho : s.heap.get? a = some o') (hc : o'.cls = .type "list") (hdat : o'.data = .seq xs k) (h : P () s) : wpAny (model prog w) A (checkBoundCall "list.append" ⟨[.ref a, x], []⟩) P E s := by
  have hT : s.TypeIs (.ref a) "list" := ⟨_, ho, hc⟩
  have f1 := sub_list_module
  obtain ⟨c, dct, dat, sl⟩ := o'
  simp only at hc hdat
  subst hc hdat
  unfold checkBoundCall
  have e1 : Manifest.signature? "list.append" = Manifest.signature? "list.append" := rfl
  repeat (any_goals (first | assumption | wp_step))
theorem call_append {v : Value} {its : Array Value} {n : Nat} (F : Fr h₀ L s.heap m) (N : News h₀ L s.heap news) (hm : (q, appO a) ∈ news) (U : Upd a (listOf its n) (listOf (its.push v) (n + 1)) news news')
    (h : ∀ h', Fr h₀ L h' m → News h₀ L h' news' → Q .none { s with heap := h' }) (hsz : its.size ≤ sizeLine := by size_fits) : wpAny (model prog w) A (call (.ref q) [v]) Q E s := by
  have hq := (N _ hm).1
  obtain ⟨pre, post, rfl, rfl, a', b'⟩ := U.split
  have z := N (a, listOf its n) (List.mem_append.mpr (.inr (.head _)))
  refine wpAny_call (codeAny_of_tree ?_)
  show wpAny _ A.in1 (callAny (.ref q) ⟨[v], []⟩) _ _ s
  simp only [callAny]
  refine wpAny_bind (wpAny_load hq ?_)
  simp only [show (Value.type "builtin_function_or_method" == Value.type "method" || Value.type "builtin_function_or_method" == Value.type "builtin_function_or_method" || Value.type "builtin_function_or_method" == Value.type "method-wrapper") = true by decide, if_true]
  refine KFB.if_so (by rfl) ?_
  refine wpAny_bind (check_app z.1 rfl rfl ?_)
  refine wpAny_bind (wpAny_pure (wpAny_pure ?_))
  refine ⟨quiet_app, codeAny_builtin entry_list_append ?_⟩
  show wpAny _ _ (updateSeq a (·.push v) >>= fun _ => ret .none) _ _ s
  refine wpAny_bind ?_
  refine wpAny_updateSeq z.1 rfl (wpAny_pure (h _ (F.change (Heap.SameBut.update ..) z.2.1 z.2.2) (news_set N a' b' (Heap.SameBut.update ..) ?_)))
  show (s.heap.update a _).get? a = _
  rw [Heap.get?_update_self _ z.1 (by rw [mapSeq_push]; rfl), mapSeq_push]
theorem callWith_fld {pos : Pos} {args : List (Bool × Sem Value)} (hplain : args.any (·.1) = false)
    (h : wpAny (model prog w) A (evalArgs (.ref q) true args []) (fun x s₁ => s₁.heap.get? q = some (appO a) ∧ wpAny (model prog w) A (call (.ref q) x.pos x.kw) Q E s₁) E s) : wpAny (model prog w) A (callWith pos (.ref q) [] args []) Q E s := by
  unfold callWith
  refine wpAny_bind (wpAny_holding (wpAny_mono h (fun x s₁ h₁ => wpAny_bind (wpAny_standAt ?_)) fun _ _ x => x))
  obtain ⟨ho, hcall⟩ := h₁
  simp only [hplain, List.any_nil, Bool.or_false]
  refine wpAny_bind (m := keeperOf (.ref q)) ?_
  unfold keeperOf
  refine wpAny_bind (wpAny_load ho ?_)
  simp only [show (Value.type "builtin_function_or_method" != Value.type "method") = true by decide, show (Value.type "builtin_function_or_method" == Value.type "builtin_function_or_method" || Value.type "builtin_function_or_method" == Value.type "method-wrapper") = true by decide, if_true]
  refine wpAny_pure ?_
  exact wpAny_bind (wpAny_mono hcall (fun r s₂ hr => wpAny_bind (wpAny_holding (wpAny_point (wpAny_pure hr)))) fun _ _ x => x)
theorem callWith_app {pos : Pos} {env : Env} {e : Expr} {rest : List Expr} (N : News h₀ L s.heap news) (hm : (q, appO a) ∈ news)
    (h : wpAny (model prog w) A (spliced (backTo pos (starEach (e :: rest) env))) (fun vs s₁ => s₁.heap.get? q = some (appO a) ∧ wpAny (model prog w) A (call (.ref q) vs) Q E s₁) E s)
    (he : starEach (e :: rest) env = (false, eval e env) :: starEach rest env := by rfl) (hplain : (backTo pos (starEach rest env)).any (·.1) = false := by rfl) :
    wpAny (model prog w) A (callWith pos (.ref q) [] (backTo pos (starEach (e :: rest) env)) []) Q E s := by
  rw [he] at h ⊢
  refine callWith_fld (a := a) (by show (false || (backTo pos (starEach rest env)).any (·.1)) = false; rw [hplain]; rfl) ?_
  exact Calls.evalArgs_plain h
end
end S_Bnd
section S_Jo
noncomputable def joinWith (s : List Nat) : List (List Nat) → List Nat
  | [] => []
  | x :: [] => x
  | x :: y :: r => x ++ (s ++ joinWith s (y :: r))
theorem joinWith_cons (s x : List Nat) (r : List (List Nat)) : joinWith s (x :: r) = x ++ (r.map fun y => s ++ y).flatten := by
  induction r generalizing x with
  | nil => simp [joinWith]
  | cons y r ih => rw [joinWith, ih]; simp
theorem joinWith_nil (ls : List (List Nat)) : joinWith [] ls = ls.flatten := by
  cases ls with
  | nil => rfl
  | cons x r => rw [joinWith_cons]; simp
theorem strPairs : ∀ {ls : List (List Nat)} {vs : List Value}, F2 TxtV ls vs → ∃ ps : List (PySem.Str × Tok), vs = strValues ps ∧ ps.map (·.1) = ls.map tx
  | _, _, .nil => ⟨[], rfl, rfl⟩
  | _, _, .cons ⟨t, e⟩ r => by
    obtain ⟨ps, e1, e2⟩ := strPairs r
    exact ⟨(_, t) :: ps, by rw [e, e1]; rfl, by rw [List.map_cons, List.map_cons, e2]; rfl⟩
theorem glued_is (s : List Nat) (ls : List (List Nat)) : Txt.join (tx s) (ls.map tx) = tx (joinWith s ls) := by
  cases ls with
  | nil => rfl
  | cons x r =>
    rw [joinWith_cons]
    have key : ∀ (r : List (List Nat)) (acc : List Nat), (r.map tx).foldl (fun (acc : Array Nat) p => acc ++ (tx s).cps ++ p.cps) acc.toArray = (acc ++ (r.map fun y => s ++ y).flatten).toArray := by
      intro r
      induction r with
      | nil => intro acc; simp
      | cons y r ih =>
        intro acc
        have := ih (acc ++ (s ++ y))
        simp only [List.map_cons, List.foldl_cons, List.flatten_cons]
        simp only [tx, List.append_toArray] at this ⊢
        simpa [List.append_assoc] using this
    show Builtin.Str.glued _ _ = _
    unfold Builtin.Str.glued
    simp only [List.map_cons, List.drop_one, List.tail_cons, List.headD_cons]
    exact congrArg PySem.Str.mk (key r x)
theorem joinOk_my {s : List Nat} {ls : List (List Nat)} (h1 : s.length ≤ 2) (h2 : ls.length ≤ 200) (h3 : ∀ x ∈ ls, x.length ≤ 200) : JoinOk (tx s) (ls.map tx) = true := by
  unfold JoinOk
  have key : ∀ (r : List (List Nat)) (n : Nat), (∀ x ∈ r, x.length ≤ 200) → (r.map tx).foldl (fun (a : Nat) p => a + p.length + (tx s).length) n ≤ n + r.length * 202 := by
    intro r
    induction r with
    | nil => intro n _; simp
    | cons y r ih =>
      intro n hr
      have hy : y.length ≤ 200 := hr y List.mem_cons_self
      have := ih (n + (tx y).length + (tx s).length) (fun x hx => hr x (List.mem_cons_of_mem _ hx))
      simp only [List.map_cons, List.foldl_cons, List.length_cons]
      rw [tx_length, tx_length] at this
      rw [tx_length, tx_length]
      omega
  have := key ls 0 h3
  rw [List.foldl_toArray]
  have e : Builtin.Str.tooLong ((ls.map tx).foldl (fun a p => a + p.length + (tx s).length) 0) = false := by
    unfold Builtin.Str.tooLong sizeLine
    exact decide_eq_false (by omega)
  simp only [e]
  rfl
section
variable {prog : Program} {w : World} {A : Around} {E : Value → Shared → Prop} {s : Shared} {h₀ : Heap} {L : Addr} {m : PySem.Str → Option Value} {news : Led} {Q : Value → Shared → Prop}
theorem join_my {l : Addr} {sl : List Nat} {ls : List (List Nat)} {vs : List Value} {k : Nat} {t : Tok} (N : News h₀ L s.heap news) (hm : (l, W.listOf vs.toArray k) ∈ news) (hv : F2 TxtV ls vs)
    (h1 : sl.length ≤ 2) (h2 : ls.length ≤ 200) (h3 : ∀ x ∈ ls, x.length ≤ 200) (h : ∀ t' k, Q (.str (tx (joinWith sl ls)) t') { s with toks := k }) :
    wpAny (model prog w) A (call (.builtin "str.join") [.str (tx sl) t, .ref l]) Q E s := by
  obtain ⟨ps, e1, e2⟩ := strPairs hv
  subst e1
  exact SC.join (isList_of N hm) e2 (joinOk_my h1 h2 h3) (fun t' k => by rw [glued_is]; exact h t' k)
end
theorem tx_append (a b : List Nat) : tx a ++ tx b = tx (a ++ b) := by
  show PySem.Str.mk (a.toArray ++ b.toArray) = _
  simp [tx]
end S_Jo
section S_Ob
namespace F
theorem mro_object : mroOf (.type "object") = pure [.type "object"] := by rw [mroOf_type]; kernel_rfl
theorem lookup_object_new : typeLookup (.type "object") "__new__" = pure (some (.builtin "object.__new__")) := lkQ (by kernel_rfl)
theorem madeBy_object : Bind.madeBy (.type "object") = pure (some "object.__new__") := madeBy_type mro_object lookup_object_new (by decide +kernel)
theorem typeCall_object_0 : checkTypeCall "object" ⟨[], []⟩ = pure () := (congrFun (congrFun Fast.te11612656972197000677 _) _).trans (by kernel_rfl)
theorem newCall_object_0 : checkBuiltinCall "object.__new__" ⟨[.type "object"], []⟩ = pure () := (congrFun (congrFun Fast.te10254737850608025244 _) _).trans (by kernel_rfl)
theorem entry_object_new : entryFor table "object.__new__" = some Builtin.«object.__new__» := entryFor_of_tree (by kernel_rfl)
theorem entry_object_init : entryFor table "object.__init__" = some Builtin.«object.__init__» := entryFor_of_tree (by kernel_rfl)
theorem plain_object_new : plainId "object.__new__" = true := by decide +kernel
theorem sub_object_object : isSubtype (.type "object") (.type "object") = pure true := subQ (by kernel_rfl)
theorem slot_object_init' : Slot "object" "__init__" "object.__init__" :=
  .of (owner := "object") (n := "__init__") (lkQ (by kernel_rfl)) (by kernel_rfl) (by kernel_rfl) (by kernel_rfl) (.inl (kindQ (by kernel_rfl))) (subQ (by kernel_rfl))
theorem args_object_init (a : Value) : argsOk "object.__init__" ⟨[a], []⟩ := argQ (by kernel_rfl)
end F
section
variable {prog : Program} {w : World} {A : Around} {E : Value → Shared → Prop} {s : Shared}
noncomputable abbrev objO : Obj := { cls := .type "object", data := .plain }
theorem code_object_new {Q₁ : Value → Shared → Prop} (h : Q₁ (.ref s.heap.objs.size) { s with heap := s.heap.push objO }) :
    codeAny (model prog w) A (.call (.builtin "object.__new__") ⟨[.type "object"], []⟩) (wants Q₁ E) s := by
  refine codeAny_of_tree ?_
  show wpAny _ A.in1 (do checkBuiltinCall "object.__new__" ⟨[.type "object"], []⟩; again (.builtin "object.__new__" ⟨[.type "object"], []⟩)) _ _ s
  refine wpAny_bind (wpAny_of_eq F.newCall_object_0 (wpAny_pure ⟨plainId_quiet F.plain_object_new _, codeAny_builtin F.entry_object_new ?_⟩))
  rw [Around.under_plainId F.plain_object_new _]
  unfold Builtin.«object.__new__»
  have hmade := F.madeBy_object
  have hmh : Bind.madeHere "object.__new__" (.type "object") = pure () := (congrFun (congrFun Fast.te7909335148693498415 _) _).trans (by kernel_rfl)
  obtain ⟨hp, g, d, tk, os⟩ := s
  dsimp only
  repeat (any_goals (first | assumption | wp_step))
theorem called_object : TypeCalled "object" "object.__new__" "object.__init__" :=
  ⟨by decide +kernel, by decide +kernel, ⟨_, _, F.mro_object⟩, F.madeBy_object, F.plain_object_new, F.sub_object_object, F.slot_object_init'⟩
theorem call_object {Q : Value → Shared → Prop} (h : Q (.ref s.heap.objs.size) { s with heap := s.heap.push objO }) : wpAny (model prog w) A (call (.type "object") []) Q E s := by
  refine callType_codes called_object F.typeCall_object_0 F.entry_object_init (code_object_new (E := E) (Q₁ := fun o s₁ => o = .ref s.heap.objs.size ∧ s₁ = { s with heap := s.heap.push objO }) ⟨rfl, rfl⟩) ?_
  rintro o s₁ ⟨rfl, rfl⟩
  refine ⟨⟨_, Heap.get?_push_size _ rfl, rfl⟩, F.args_object_init _, ?_⟩
  unfold Builtin.«object.__init__»
  repeat (any_goals (first | assumption | wp_step))
  exact ⟨rfl, h⟩
end
section
variable {prog : Program} {w : World} {A : Around} {E : Value → Shared → Prop} {s : Shared} {h₀ : Heap} {L : Addr} {m : PySem.Str → Option Value} {news : Led} {Q : Value → Shared → Prop}
theorem object_my (F : Fr h₀ L s.heap m) (N : News h₀ L s.heap news) (h : ∀ q h', Fr h₀ L h' m → News h₀ L h' ((q, objO) :: news) → (∀ p ∈ news, p.1 < q) → Q (.ref q) { s with heap := h' }) :
    wpAny (model prog w) A (call (.type "object") []) Q E s :=
  call_object (h _ _ (F.push _) (N.push F _) fun p hp => Heap.lt_size (N p hp).1)
end
end S_Ob
example : True := by
  k_with "kept" => (repeat (first | exact keptK_map | exact KeptK.refl _ _ | (refine KeptK.put ?_ (by decide))))
  k_with "sub_my" => (first | exact Sub.refl | (refine Sub.cons (by k_mem) ?_; k_extra "sub_my") | (refine Sub.skip ?_; k_extra "sub_my"))
  k_with "own" => (first | passes_own | with_unfolding_all passes_own)
  k_with "mm" => (with_reducible first | exact List.mem_cons_self | (refine List.mem_cons_of_mem _ ?_; k_extra "mm") | assumption | exact List.mem_append_right _ (by assumption) | exact List.mem_append_left _ (by assumption))
  k_with "ne1" => (with_reducible first | assumption | exact Nat.ne_of_lt (by assumption) | exact cjl1 (by assumption) | exact cjl2 (by assumption) | exact cjl3 (by assumption) | exact cjl4 (by assumption) | exact cjl5 (by assumption) | exact cje2 (by assumption) | exact cje3 (by assumption) | exact cje4 (by assumption) | exact cje5 (by assumption) | exact s1_ne (by assumption) | exact s2_ne (by assumption) | exact s3_ne (by assumption) | exact s4_ne (by assumption) | exact n1_ne _ | exact n2_ne _ | exact n3_ne _)
  k_with "om" => (first | (with_reducible exact Nat.le_trans (by assumption) (by decide)) | (with_reducible exact Nat.lt_of_le_of_lt (by assumption) (by decide)) | omega)
  trivial
local macro_rules | `(tactic| k_ne) => `(tactic| (refine neN ?_; (try dsimp only); first | k_extra "ne1" | (refine Ne.symm ?_; k_extra "ne1")))
local macro_rules | `(tactic| wrow_close) => `(tactic| (with_reducible refine QUp.up (by assumption) ?_; (try dsimp only)))
local macro_rules | `(tactic| walk_at "ite") => `(tactic| with_reducible first | (refine ite_pos (by assumption) ?_) | (refine ite_neg (by assumption) ?_) | (refine ite_isFalse (by assumption) ?_))
example : True := by
  k_with "subscriptTail Name Name str int" => ((refine sub_at (by assumption) ?_))
  k_with "truthy ref" => ((refine' truthyL ?k1 ?k2 ?k3 ?k4 ?_; (case k1 => k_asm); (case k2 => k_mem); (case k4 => assumption); (case k3 => first | assumption | k_extra "om")))
  k_with "subscriptTail Name BinOp str int" => ((refine sub_at (by assumption) ?_))
  trivial
example : True := by
  k_with "subscriptTail" => (((with_reducible show wpAny _ _ (subscriptTail _ _ (Value.str _ _) (Value.int _ _)) _ _ _); refine sub_at (by assumption) ?_))
  k_with "subscriptTail" => (((with_reducible show wpAny _ _ (subscriptTail _ _ (Value.ref _) (Value.int _ _)) _ _ _); refine' item_my ?k1 ?k2 ?k3 ?_; (case k1 => k_asm); (case k2 => k_mem); (case k3 => assumption)))
  k_with "subscriptTail Name Slice str ref" => (((with_reducible show wpAny _ _ (subscriptTail _ (Expr.Slice (some _) (some _) none _) _ _) _ _ _); refine slN_ss (s := ⟨_, _, _, _, _⟩) (by k_asm) (by k_asm) (by assumption) ?_; walk_at "i5"; (try k_sweep)))
  k_with "subscriptTail Name Slice str ref" => (((with_reducible show wpAny _ _ (subscriptTail _ (Expr.Slice none (some _) none _) _ _) _ _ _); refine slN_ns (s := ⟨_, _, _, _, _⟩) (by k_asm) (by k_asm) (by assumption) ?_; walk_at "i5"; (try k_sweep)))
  k_with "subscriptTail Name Slice str ref" => (((with_reducible show wpAny _ _ (subscriptTail _ (Expr.Slice (some _) none none _) _ _) _ _ _); refine slN_sn (s := ⟨_, _, _, _, _⟩) (by k_asm) (by k_asm) (by assumption) ?_; walk_at "i5"; (try k_sweep)))
  trivial
example : True := by
  k_with "call builtin:len" => (((with_reducible show wpAny _ _ (call (Value.builtin "len") [Value.ref _]) _ _ _); refine' len_my ?k1 ?k2 ?k3 ?k4 ?_; (case k1 => k_asm); (case k2 => k_mem); (case k4 => assumption); (case k3 => first | assumption | k_extra "om")))
  k_with "WhlIf" => (first | (refine WhlIf.yes (by assumption) ?_) | (refine WhlIf.no (by assumption) ?_))
  k_with "compareOp Is" => ((refine wpAny_is_ref_self ?_))
  trivial
example : True := by
  k_with "call builtin:str.join" => (((try dsimp only [List.nil_append, List.cons_append]); (with_reducible show wpAny _ _ (call (Value.builtin "str.join") [Value.str _ _, Value.ref _]) _ _ _); refine' join_my (sl := []) ?k1 ?k2 ?k3 ?k4 ?k5 ?k6 ?_; (case k1 => k_asm); (case k2 => k_mem); (case k3 => assumption); (case k4 => simp); (case k5 => first | assumption | k_extra "om"); (case k6 => assumption); intro _ _))
  k_with "compareOp IsNot" => (((with_reducible show wpAny _ _ (compareOp CmpOp.IsNot (Value.str _ _) (Value.ref _)) _ _ _); refine wpAny_isNot_other (by rfl) (by nofun) ?_))
  trivial
local macro_rules | `(tactic| walk_at "compareOp IsNot") => `(tactic| (refine wpAny_isNot_ref_self ?_))
section G_FTl
local macro_rules | `(tactic| walk_at "And") => `(tactic| (((with_reducible show (Heap.get? _ _ = some _) ∧ _); refine ⟨News.get (by k_asm) (by k_mem), ?_⟩; (try dsimp only))))
example : True := by
  k_with "getAttr ref" => (((with_reducible show wpAny _ _ (getAttr (Value.ref _) (PySem.Str.ofString "append") _) _ _ _); refine' attr_append ?k1 ?k2 ?k3 ?_; (case k1 => k_asm); (case k2 => k_asm); (case k3 => k_mem); (walk_at "l5"; (try k_sweep))))
  k_with "callWith ref" => ((refine' callWith_app ?k1 ?k2 ?_; (case k1 => k_asm); (case k2 => k_mem)))
  k_with "call ref" => ((refine' call_append ?k1 ?k2 ?k3 ?k4 ?_ ?z; (case k1 => k_asm); (case k2 => k_asm); (case k3 => k_mem); (case k4 => k_upd); (case z => size_fits); (walk_at "i3"; (try k_sweep))))
  trivial
local macro_rules | `(tactic| walk_at $s:str) => if s.getString ∈ ["exec While", "exec While Compare", "exec While BoolOp"] then `(tactic| (refine Stop.mk ?_)) else Lean.Macro.throwUnsupported
local macro_rules | `(tactic| k_all) => `(tactic| assumption)
section S_FTl
local macro_rules | `(tactic| walk_at "ite") => `(tactic| first | (refine ite_pos (by decide +kernel) ?_) | (refine ite_neg (by decide +kernel) ?_))
example : True := by
  k_with "call builtin:str.replace" => (((try dsimp only [List.nil_append, List.cons_append]); refine replace_no (by decide +kernel) ?_))
  trivial
example : True := by
  k_with "getMethod ref" => (((with_reducible show wpAny _ _ (getMethod (Value.ref 36) _ _) _ _ _); with_unfolding_all refine getMethod_sub (Frag.In.keeps (by assumption) (Fr.keep (by assumption)) 36 _ (by k_is)) rfl rfl ?_; (try dsimp only)))
  trivial
local macro_rules | `(tactic| walk_at "tE") => `(tactic| (intro r' n' h' tk' F' N' hp'; obtain ⟨⟨t', e1'⟩, e2'⟩ := hp'; subst e1'; replace e2' := e2'.symm; subst e2'; (try dsimp only); (try k_sweep)))
local macro_rules | `(tactic| walk_at "tS") => `(tactic| ((rename Fr _ _ _ _ => lF'); (rename News _ _ _ _ => lN'); intro h' tk' t' hk'; (have F' := Fr.keeps lF' hk'); (have N' := News.grown lN' hk'); clear lF' lN' hk'; (try dsimp only)))
local macro_rules | `(tactic| walk_at "tL") => `(tactic| (intro f' o' h' tk' ps' ok' ho' F' N' l1; (try dsimp only at N'); (try k_lt l1)))
example : True := by
  k_with "call builtin:re.Pattern.sub" => (((try dsimp only [List.nil_append, List.cons_append]); with_unfolding_all refine call_sub (Frag.In.keeps (by assumption) (Fr.keep (by assumption)) 36 _ (by k_is)) (Frag.In.keeps (by assumption) (Fr.keep (by assumption)) 35 _ (by k_is)) (News.get (by k_asm) (by k_mem)) (by assumption) (by decide) ?_; walk_at "tS"))
  k_with "eval Lambda" => ((refine' lam_my ?jF ?jN ?jT ?jC ?jcd ?jU ?jok ?jl ?jc ?jcl ?jd ?_; (case jF => k_asm); (case jN => k_asm); (case jT => k_asm); (case jC => assumption); (case jcd => exact rfl); (case jU => k_updF); (case jok => assumption); (case jl => exact rfl); (case jc => exact rfl); (case jcl => exact rfl); (case jd => exact rfl); (walk_at "tL"; (try k_sweep))))
  k_with "compareOp IsNot str ref" => ((refine wpAny_isNot_other (by rfl) (by nofun) ?_))
  k_with "call ref" => (((with_reducible show wpAny _ _ (call (Value.ref 55) [Value.str ⟨#[_]⟩ _]) _ _ _); refine fn_use (escape _ _ _ _ ?h1) (by assumption) (by assumption) (by assumption) (by assumption) (by assumption) (by assumption) (by assumption) (by rfl) (by k_extra "dep") (by k_extra "dep") ?_; (case h1 => assumption); walk_at "tE"))
  trivial
noncomputable def wr (c : Nat) : List Nat := if c = 42 ∨ c = 63 ∨ c = 91 then [91, c, 93] else [c]
noncomputable def pieceL (c : Nat) : List Nat := if c = 42 ∨ c = 63 then [91, c, 93] else if c = 91 then [91, 92, 91, 93] else escL c
noncomputable def patL (cs : List Nat) : List Nat := cs.flatMap wr ++ [42]
theorem wr_len (c : Nat) : (wr c).length ≤ 3 := by unfold wr; split <;> simp
theorem patL_len {ws : List Nat} (h : ws.length ≤ 30) : (patL ws).length ≤ 100 := by
  have : ∀ l : List Nat, (l.flatMap wr).length ≤ 3 * l.length := by
    intro l
    induction l with
    | nil => simp
    | cons c l ih => have := wr_len c; simp only [List.flatMap_cons, List.length_append, List.length_cons]; omega
  have h2 := this ws
  unfold patL
  simp only [List.length_append, List.length_singleton]
  omega
theorem sign_ne {c k : Nat} (h : c ≠ k) : (({ cps := #[c] } : PySem.Str) == { cps := #[k] }) = false := by
  apply beq_eq_false_iff_ne.mpr
  intro e
  have := congrArg (fun s : PySem.Str => s.cps.toList) e
  simp at this
  exact h this
inductive TrlP (ws : List Nat) (st : Addr) (news : Led) (r : Value) (n' : Led) : Prop
  | mk (l : Addr) (vs : List Value) (ps' : Array Value) (cap : Nat) (c1 : TabOk ps') (c2 : F2 TxtV (ws.map pieceL) vs) (c3 : r = .ref l) (c4 : n' = (l, W.listOf (vs ++ [Value.ref st]).toArray cap) :: (57, tabObj ps') :: news) (c5 : 57 < l) (c6 : ∀ p ∈ news, p.1 < l) : TrlP ws st news r n'
inductive TA (ws : List Nat) (qa lr : Addr) (news : Led) (kk : Nat) (m' : PySem.Str → Option Value) (n' : Led) : Prop
  | mk (dn td : List Nat) (vs : List Value) (ps : Array Value) (cap : Nat) (c1 : TabOk ps) (c2 : ws = dn ++ td) (c3 : kk = td.length + 1) (c4 : HasI m' (PySem.Str.ofString "i") ((dn.flatMap wr).length : Nat)) (c5 : F2 TxtV (dn.map pieceL) vs) (c6 : n' = (qa, appO lr) :: (lr, W.listOf vs.toArray cap) :: (57, tabObj ps) :: news) : TA ws qa lr news kk m' n'
inductive TB (ws : List Nat) (st qa lr : Addr) (news : Led) (kk : Nat) (m' : PySem.Str → Option Value) (n' : Led) : Prop
  | mk (vs : List Value) (ps : Array Value) (cap : Nat) (c1 : TabOk ps) (c2 : kk = 0) (c3 : HasI m' (PySem.Str.ofString "i") ((tx (patL ws)).length : Nat)) (c4 : F2 TxtV (ws.map pieceL) vs) (c5 : n' = (qa, appO lr) :: (lr, W.listOf (vs ++ [Value.ref st]).toArray cap) :: (57, tabObj ps) :: news) : TB ws st qa lr news kk m' n'
namespace Ktrl
abbrev Par : Type := (World) × (List Nat) × (Tok) × (Addr) × (Tok) × (Led) × (Array Value) × (Program) × (List PySem.Str) × (ExcName → Option Value) × (PySem.Str → Option Value) × (PySem.Str → Option Value) × (Nat) × (Nat) × (Option (List Code)) × (PySem.Str) × (Scope) × (Addr) × (Value) × (List (PySem.Str × Addr)) × (List Env) × (Around) × (Heap) × (Heap) × (Addr) × (PySem.Str → Option Value) × (Shared) × (Value → Shared → Prop) × (Value → Shared → Prop)
theorem ne : Nonempty Par := ⟨by refine ⟨?_, ?_, ?_, ?_, ?_, ?_, ?_, ?_, ?_, ?_, ?_, ?_, ?_, ?_, ?_, ?_, ?_, ?_, ?_, ?_, ?_, ?_, ?_, ?_, ?_, ?_, ?_, ?_, ?_⟩ <;> first | exact W0 | exact default | exact {} | exact FD0⟩
noncomputable def Goal : Par → Prop := fun e0 => (fun (w : World) (ws : List Nat) (tx0 : Tok) (st : Addr) (t2 : Tok) (news : Led) (ps : Array Value) (p : Program) (loose : List PySem.Str) (mean : ExcName → Option Value) (mg : PySem.Str → Option Value) (mb : PySem.Str → Option Value) (dp : Nat) (un : Nat) (gd : Option (List Code)) (cn : PySem.Str) (cs : Scope) (a : Addr) (ccd : Value) (cl : List (PySem.Str × Addr)) (outer : List Env) (A₀ : Around) (base : Heap) (h₀ : Heap) (L : Addr) (m : PySem.Str → Option Value) (s : Shared) (Q : Value → Shared → Prop) (E : Value → Shared → Prop) => (hx : ws.length ≤ 30) → (hs : ∀ c ∈ ws, c ∈ signs17) → (hne : ws ≠ []) → (ok : TabOk ps) → (h57 : ∀ p ∈ news, p.1 ≠ 57) → FnG w 980 62 [.str (tx (patL ws)) tx0, .ref st, .str (PySem.Str.ofString ".") t2] ((57, tabObj ps) :: news) (TrlP ws st news) p loose mean mg mb dp un gd cn cs a ccd cl outer A₀ base h₀ L m s Q E) e0.1 e0.2.1 e0.2.2.1 e0.2.2.2.1 e0.2.2.2.2.1 e0.2.2.2.2.2.1 e0.2.2.2.2.2.2.1 e0.2.2.2.2.2.2.2.1 e0.2.2.2.2.2.2.2.2.1 e0.2.2.2.2.2.2.2.2.2.1 e0.2.2.2.2.2.2.2.2.2.2.1 e0.2.2.2.2.2.2.2.2.2.2.2.1 e0.2.2.2.2.2.2.2.2.2.2.2.2.1 e0.2.2.2.2.2.2.2.2.2.2.2.2.2.1 e0.2.2.2.2.2.2.2.2.2.2.2.2.2.2.1 e0.2.2.2.2.2.2.2.2.2.2.2.2.2.2.2.1 e0.2.2.2.2.2.2.2.2.2.2.2.2.2.2.2.2.1 e0.2.2.2.2.2.2.2.2.2.2.2.2.2.2.2.2.2.1 e0.2.2.2.2.2.2.2.2.2.2.2.2.2.2.2.2.2.2.1 e0.2.2.2.2.2.2.2.2.2.2.2.2.2.2.2.2.2.2.2.1 e0.2.2.2.2.2.2.2.2.2.2.2.2.2.2.2.2.2.2.2.2.1 e0.2.2.2.2.2.2.2.2.2.2.2.2.2.2.2.2.2.2.2.2.2.1 e0.2.2.2.2.2.2.2.2.2.2.2.2.2.2.2.2.2.2.2.2.2.2.1 e0.2.2.2.2.2.2.2.2.2.2.2.2.2.2.2.2.2.2.2.2.2.2.2.1 e0.2.2.2.2.2.2.2.2.2.2.2.2.2.2.2.2.2.2.2.2.2.2.2.2.1 e0.2.2.2.2.2.2.2.2.2.2.2.2.2.2.2.2.2.2.2.2.2.2.2.2.2.1 e0.2.2.2.2.2.2.2.2.2.2.2.2.2.2.2.2.2.2.2.2.2.2.2.2.2.2.1 e0.2.2.2.2.2.2.2.2.2.2.2.2.2.2.2.2.2.2.2.2.2.2.2.2.2.2.2.1 e0.2.2.2.2.2.2.2.2.2.2.2.2.2.2.2.2.2.2.2.2.2.2.2.2.2.2.2.2
noncomputable def q : Par := pick ne Goal
@[irreducible] noncomputable def w : World := q.1
@[irreducible] noncomputable def ws : List Nat := q.2.1
@[irreducible] noncomputable def tx0 : Tok := q.2.2.1
@[irreducible] noncomputable def st : Addr := q.2.2.2.1
@[irreducible] noncomputable def t2 : Tok := q.2.2.2.2.1
@[irreducible] noncomputable def news : Led := q.2.2.2.2.2.1
@[irreducible] noncomputable def ps : Array Value := q.2.2.2.2.2.2.1
@[irreducible] noncomputable def p : Program := q.2.2.2.2.2.2.2.1
@[irreducible] noncomputable def loose : List PySem.Str := q.2.2.2.2.2.2.2.2.1
@[irreducible] noncomputable def mean : ExcName → Option Value := q.2.2.2.2.2.2.2.2.2.1
@[irreducible] noncomputable def mg : PySem.Str → Option Value := q.2.2.2.2.2.2.2.2.2.2.1
@[irreducible] noncomputable def mb : PySem.Str → Option Value := q.2.2.2.2.2.2.2.2.2.2.2.1
@[irreducible] noncomputable def dp : Nat := q.2.2.2.2.2.2.2.2.2.2.2.2.1
@[irreducible] noncomputable def un : Nat := q.2.2.2.2.2.2.2.2.2.2.2.2.2.1
@[irreducible] noncomputable def gd : Option (List Code) := q.2.2.2.2.2.2.2.2.2.2.2.2.2.2.1
@[irreducible] noncomputable def cn : PySem.Str := q.2.2.2.2.2.2.2.2.2.2.2.2.2.2.2.1
@[irreducible] noncomputable def cs : Scope := q.2.2.2.2.2.2.2.2.2.2.2.2.2.2.2.2.1
@[irreducible] noncomputable def a : Addr := q.2.2.2.2.2.2.2.2.2.2.2.2.2.2.2.2.2.1
@[irreducible] noncomputable def ccd : Value := q.2.2.2.2.2.2.2.2.2.2.2.2.2.2.2.2.2.2.1
@[irreducible] noncomputable def cl : List (PySem.Str × Addr) := q.2.2.2.2.2.2.2.2.2.2.2.2.2.2.2.2.2.2.2.1
@[irreducible] noncomputable def outer : List Env := q.2.2.2.2.2.2.2.2.2.2.2.2.2.2.2.2.2.2.2.2.1
@[irreducible] noncomputable def A₀ : Around := q.2.2.2.2.2.2.2.2.2.2.2.2.2.2.2.2.2.2.2.2.2.1
@[irreducible] noncomputable def base : Heap := q.2.2.2.2.2.2.2.2.2.2.2.2.2.2.2.2.2.2.2.2.2.2.1
@[irreducible] noncomputable def h₀ : Heap := q.2.2.2.2.2.2.2.2.2.2.2.2.2.2.2.2.2.2.2.2.2.2.2.1
@[irreducible] noncomputable def L : Addr := q.2.2.2.2.2.2.2.2.2.2.2.2.2.2.2.2.2.2.2.2.2.2.2.2.1
@[irreducible] noncomputable def m : PySem.Str → Option Value := q.2.2.2.2.2.2.2.2.2.2.2.2.2.2.2.2.2.2.2.2.2.2.2.2.2.1
@[irreducible] noncomputable def s : Shared := q.2.2.2.2.2.2.2.2.2.2.2.2.2.2.2.2.2.2.2.2.2.2.2.2.2.2.1
@[irreducible] noncomputable def Q : Value → Shared → Prop := q.2.2.2.2.2.2.2.2.2.2.2.2.2.2.2.2.2.2.2.2.2.2.2.2.2.2.2.1
@[irreducible] noncomputable def E : Value → Shared → Prop := q.2.2.2.2.2.2.2.2.2.2.2.2.2.2.2.2.2.2.2.2.2.2.2.2.2.2.2.2
noncomputable def BH (g₉ : Heap) (l₉ : Addr) (h₉ : Heap) (t₉ : Nat) : Prop := BodyH w 62 61 8 [(PySem.Str.ofString "QUESTION_MARK", .str (PySem.Str.ofString ".") t2), (PySem.Str.ofString "STAR", .ref st), (PySem.Str.ofString "pat", .str (tx (patL ws)) tx0)] ((57, tabObj ps) :: news) p loose mean mg mb dp un gd cn cs a ccd cl outer base h₀ L m s Q E (rfl : stm 8 = _) g₉ l₉ h₉ t₉
noncomputable def ev : EV := pick evne (fun e => BH e.g e.l e.h e.t)
@[irreducible] noncomputable def g' : Heap := ev.g
@[irreducible] noncomputable def L' : Addr := ev.l
@[irreducible] noncomputable def h' : Heap := ev.h
@[irreducible] noncomputable def tk' : Nat := ev.t
theorem body (hx : ws.length ≤ 30) (hs : ∀ c ∈ ws, c ∈ signs17) (hne : ws ≠ []) (ok : TabOk ps) (h57 : ∀ p ∈ news, p.1 ≠ 57) (B : Below A₀ base outer h₀) (X : (K0 w.params).In h₀) (T : Top p loose mean mg mb h₀) (C1 : CodeHd h₀ 61 57) (C2 : CodeHd h₀ 170 168) (hk : cs.kind = .function) (hd : dp < 980) (hu : un < 8 * 980) (hret : ∀ r news' h' tk', Fr h₀ L h' m → News h₀ L h' news' → ((TrlP ws st news)) r news' → Q r { s with heap := h', toks := tk' }) : BH g' L' h' tk' := by
  have yc : Clo := .mk
  w_on
  intro F' N' B' X' T' C1' C2' lt'
  (try dsimp only)
  have hl1 : (tx (patL ws)).length ≤ 100 := by rw [tx_length]; exact patL_len hx
  k_steps
  rename_i lr _ l1r _ qa _ l1a _ _ _ _ _ _ _ FW NW
  refine Stop.go (while_k [PySem.Str.ofString "i", PySem.Str.ofString "c", PySem.Str.ofString "j", PySem.Str.ofString "stuff"] (fun kk m' n' => TA ws qa lr news kk m' n' ∨ TB ws st qa lr news kk m' n') (ws.length + 1) ((qa, appO lr) :: (lr, W.listOf #[] 0) :: (57, tabObj ps) :: news) FW NW (by
      intro p hp; exact List.mem_cons_of_mem _ hp) (.inl ⟨[], ws, [], ps, 0, ok, rfl, rfl, .of rfl rfl, .nil, rfl⟩) (by k_extra "own") ?_)
  refine cl6 ?_; generalize cl6_1 _ _ = kk, cl6_2 _ _ = m1, cl6_3 _ _ = n1, cl6_4 _ _ = h1, cl6_5 _ _ = tk1, cl6_6 _ _ = Q1
  rintro (hT | hT) F1 N1 hQ1
  · refine TA.casesOn hT ?_
    intro dn td0 vs ps2 cap ok2 e1 e2 e3 e5 e4
    refine Exists.casesOn e3 ?_
    intro ti e3
    clear FW NW hT
    subst e4
    dsimp only [mapK] at F1
    rw [e3] at F1
    dsimp only
    have hlt : (dn.flatMap wr).length < (tx (patL ws)).length := by
      rw [e1, tx_length]; unfold patL; simp
    k_steps
    refine ⟨fun _ => ?_, fun hf => absurd hlt (by simpa using hf)⟩
    have hle : dn.length ≤ 30 := by have := congrArg List.length e1; simp at this; omega
    have hv1 : vs.length = dn.length := by have := e5.length; simpa using this.symm
    by_cases htd : td0 = []
    · subst htd
      have h0 : At (tx (patL ws)) ((dn.flatMap wr).length : Nat) 42 := At.of (post := []) (by rw [e1]; simp [patL]) (by have := patL_len hx; omega)
      have hvs : ∃ vs' v, vs = vs' ++ [v] ∧ ∃ l, TxtV l v := by
        have hdn : dn ≠ [] := by intro e; rw [e] at e1; exact hne e1
        obtain ⟨dn', d, rfl⟩ : ∃ dn' d, dn = dn' ++ [d] := ⟨_, _, (List.dropLast_concat_getLast hdn).symm⟩
        rw [List.map_append] at e5
        obtain ⟨m1, m2, rfl, _, t2⟩ := e5.split
        cases t2 with
        | cons h t => cases t; exact ⟨_, _, rfl, _, h⟩
      refine Exists.casesOn hvs ?_
      intro vs' hvs1
      refine Exists.casesOn hvs1 ?_
      intro v hvs2
      refine And.casesOn hvs2 ?_
      intro hvs3 hvs4
      refine Exists.casesOn hvs4 ?_
      intro lv hvs5
      refine Exists.casesOn hvs5 ?_
      intro tv hvs6
      clear hvs hvs1 hvs2 hvs4 hvs5
      subst hvs6 hvs3
      have hsz : (vs' ++ [Value.str (tx lv) tv]).toArray.size ≤ 100000 := by rw [List.size_toArray]; omega
      have ht : (!(vs' ++ [Value.str (tx lv) tv]).toArray.isEmpty) = true := by simp
      have hit : ItemAt (vs' ++ [Value.str (tx lv) tv]).toArray (-1) (Value.str (tx lv) tv) := by
        refine ⟨hsz, .inr ⟨by omega, by simp; omega, ?_⟩⟩
        have : ((-1 : Int) + ((vs' ++ [Value.str (tx lv) tv]).toArray.size : Nat)).toNat = vs'.length := by simp; omega
        rw [this]; simp
      k_steps
      · exact News.get (by assumption) (by k_mem)
      · refine AgainW.next (by assumption) (by assumption) (k' := 0) (by rw [e2]; exact Nat.succ_pos _) (fun _ h => h) ⟨by k_extra "kept", .inr ⟨vs' ++ [Value.str (tx lv) tv], ps2, ?cap5, ok2, rfl, .of rfl ?a5, ?b5, ?c5⟩⟩
        case c5 => (rw [List.push_toArray])
        case a5 => (rw [tx_length, e1]; simp [patL])
        case b5 =>
          have : ws = dn := by simpa using e1
          rw [this]; exact e5
    · refine Exists.casesOn (List.exists_cons_of_ne_nil htd) ?_
      intro c hcd
      refine Exists.casesOn hcd ?_
      intro td hcd'
      clear hcd htd
      subst hcd'
      have hc : c ∈ signs17 := hs c (by rw [e1]; simp)
      have hsz : vs.toArray.size ≤ 100000 := by rw [List.size_toArray]; omega
      by_cases hb : c = 42 ∨ c = 63 ∨ c = 91
      · have h0 : At (tx (patL ws)) ((dn.flatMap wr).length : Nat) 91 := At.of (post := c :: 93 :: td.flatMap wr ++ [42]) (by rw [e1]; simp [patL, wr, hb]) (by have := patL_len hx; omega)
        have h1 : At (tx (patL ws)) (((dn.flatMap wr).length : Nat) + 1 : Int) c := At.of' (pre := dn.flatMap wr ++ [91]) (post := 93 :: td.flatMap wr ++ [42]) (by rw [e1]; simp [patL, wr, hb]) (by have := patL_len hx; omega) (by simp)
        have h2 : At (tx (patL ws)) (((dn.flatMap wr).length : Nat) + 1 + 1 : Int) 93 := At.of' (pre := dn.flatMap wr ++ [91, c]) (post := td.flatMap wr ++ [42]) (by rw [e1]; simp [patL, wr, hb]) (by have := patL_len hx; omega) (by simp only [List.length_append, List.length_cons, List.length_nil]; omega)
        have hsl : Txt.slice (tx (patL ws)) (some (((dn.flatMap wr).length : Nat) + 1 : Int)) (some (((dn.flatMap wr).length : Nat) + 1 + 1 : Int)) = ⟨#[c]⟩ := slice_of (pre := dn.flatMap wr ++ [91]) (mid := [c]) (post := 93 :: td.flatMap wr ++ [42]) (by rw [e1]; simp [patL, wr, hb]) (by simp only [List.length_append, List.length_cons, List.length_nil]; omega) (by simp only [List.length_append, List.length_cons, List.length_nil]; omega)
        have hl3 : (dn.flatMap wr).length + 3 ≤ (tx (patL ws)).length := by rw [tx_length, e1]; simp [patL, wr, hb]
        have hb2 := hb
        rcases hb with rfl | rfl | rfl
        · k_steps
          refine Stop.go (whl_start 3 ?_)
          k_steps
          · exact News.get (by assumption) (by k_mem)
          · rename TabOk _ => ok3
            refine AgainW.next (by assumption) (kti_tail (kti_tail (by assumption))) (k' := td.length + 1) (by rw [e2]; simp) (fun _ h => h) ⟨by k_extra "kept", .inl ⟨dn ++ [_], td, vs ++ [?v1], _, ?cap1, ok3, e1.trans (List.append_cons dn _ td), rfl, .of rfl ?a1, ?b1, ?c1⟩⟩
            case c1 => (rw [List.push_toArray])
            case a1 => (simp [wr]; omega)
            case b1 => (rw [List.map_append]; exact e5.snoc ⟨_, rfl⟩)
        · k_steps
          refine Stop.go (whl_start 3 ?_)
          k_steps
          · exact News.get (by assumption) (by k_mem)
          · rename TabOk _ => ok3
            refine AgainW.next (by assumption) (kti_tail (kti_tail (by assumption))) (k' := td.length + 1) (by rw [e2]; simp) (fun _ h => h) ⟨by k_extra "kept", .inl ⟨dn ++ [_], td, vs ++ [?v2], _, ?cap2, ok3, e1.trans (List.append_cons dn _ td), rfl, .of rfl ?a2, ?b2, ?c2⟩⟩
            case c2 => (rw [List.push_toArray])
            case a2 => (simp [wr]; omega)
            case b2 => (rw [List.map_append]; exact e5.snoc ⟨_, rfl⟩)
        · k_steps
          refine Stop.go (whl_start 3 ?_)
          k_steps
          · exact News.get (by assumption) (by k_mem)
          · rename TabOk _ => ok3
            refine AgainW.next (by assumption) (kti_tail (kti_tail (by assumption))) (k' := td.length + 1) (by rw [e2]; simp) (fun _ h => h) ⟨by k_extra "kept", .inl ⟨dn ++ [_], td, vs ++ [?v3], _, ?cap3, ok3, e1.trans (List.append_cons dn _ td), rfl, .of rfl ?a3, ?b3, ?c3⟩⟩
            case c3 => (rw [List.push_toArray])
            case a3 => (simp [wr]; omega)
            case b3 => (rw [List.map_append]; exact e5.snoc ⟨_, rfl⟩)
      · have h0 : At (tx (patL ws)) ((dn.flatMap wr).length : Nat) c := At.of (post := td.flatMap wr ++ [42]) (by rw [e1]; simp [patL, wr, hb]) (by have := patL_len hx; omega)
        have n1 : (({ cps := #[c] } : PySem.Str) == PySem.Str.ofString "*") = false := sign_ne (k := 42) (fun e => hb (.inl e))
        have n2 : (({ cps := #[c] } : PySem.Str) == PySem.Str.ofString "?") = false := sign_ne (k := 63) (fun e => hb (.inr (.inl e)))
        have n3 : (({ cps := #[c] } : PySem.Str) == PySem.Str.ofString "[") = false := sign_ne (k := 91) (fun e => hb (.inr (.inr e)))
        k_steps
        · exact News.get (by assumption) (by k_mem)
        · rename_i _ _ _ tv0 _ tv1 _
          refine AgainW.next (by assumption) (by assumption) (k' := td.length + 1) (by rw [e2]; simp) (fun _ h => h) ⟨by k_extra "kept", .inl ⟨dn ++ [c], td, vs ++ [Value.str (tx (escL c)) tv0], ps2, ?cap6, ok2, ?d6, rfl, .of rfl ?a6, ?b6, ?c6⟩⟩
          case c6 => (rw [List.push_toArray]; rfl)
          case d6 => (rw [e1]; simp)
          case a6 => (simp [wr, hb])
          case b6 =>
            rw [List.map_append]
            refine e5.snoc ⟨tv0, ?_⟩
            have : pieceL c = escL c := by unfold pieceL; rw [if_neg (fun h => hb (by omega)), if_neg (fun h => hb (by omega))]
            rw [this]; first | done | rfl
  · refine TB.casesOn hT ?_
    intro vs ps2 cap ok2 e2 e3 e5 e4
    refine Exists.casesOn e3 ?_
    intro ti e3
    clear FW NW hT
    subst e4
    dsimp only [mapK] at F1
    rw [e3] at F1
    dsimp only
    k_steps
    refine ⟨fun hf => absurd hf (by simp), fun _ => ?_⟩
    k_steps
    · refine hret _ _ _ _ (by assumption) (kti_tail (by assumption)) ⟨lr, vs, ps2, cap, ok2, e5, rfl, rfl, l1r.1, fun p hp => Mine.AllLt.mem l1r.2 p hp⟩
    all_goals simp_all
theorem main (hx : ws.length ≤ 30) (hs : ∀ c ∈ ws, c ∈ signs17) (hne : ws ≠ []) (ok : TabOk ps) (h57 : ∀ p ∈ news, p.1 ≠ 57) : FnG w 980 62 [.str (tx (patL ws)) tx0, .ref st, .str (PySem.Str.ofString ".") t2] ((57, tabObj ps) :: news) (TrlP ws st news) p loose mean mg mb dp un gd cn cs a ccd cl outer A₀ base h₀ L m s Q E := by
  intro B F X N T C1 C2 hk hd hu hret
  refine wpAny_call ?_
  with_unfolding_all refine' code_my (binds := [(PySem.Str.ofString "QUESTION_MARK", .str (PySem.Str.ofString ".") t2), (PySem.Str.ofString "STAR", .ref st), (PySem.Str.ofString "pat", .str (tx (patL ws)) tx0)]) B F X N T C1 C2 ?kA ?kF ?kK ?ko ?est ?kcd ?kroom ?kbind ?kloc (fun g₁ l₁ h₁ t₁ _ => pick_all evne (P := fun e => BH e.g e.l e.h e.t) ?bd ⟨g₁, l₁, h₁, t₁⟩) ?kco ?kgen ?kkind ?kcell
  (case kA => exact rfl)
  (case kF => exact rfl)
  (case kK => exact hk)
  (case ko => k_is)
  (case est => exact rfl)
  (case kcd => k_is)
  (case kroom => (show dp < 1000; omega))
  (case kbind => exact BindsTo.of_eq rfl)
  (case kloc => exact locs rfl)
  (case kco => exact rfl)
  (case kgen => exact rfl)
  (case kkind => exact rfl)
  (case kcell => decide)
  (case bd => with_unfolding_all exact body hx hs hne ok h57 B X T C1 C2 hk hd hu hret)
theorem goal_q : Goal q := by with_unfolding_all exact main
end Ktrl
theorem trl (w : World) (ws : List Nat) (tx0 : Tok) (st : Addr) (t2 : Tok) (news : Led) (hx : ws.length ≤ 30) (hs : ∀ c ∈ ws, c ∈ signs17) (hne : ws ≠ []) (ps : Array Value) (ok : TabOk ps) (h57 : ∀ p ∈ news, p.1 ≠ 57) :
    Fn w 980 62 [.str (tx (patL ws)) tx0, .ref st, .str (PySem.Str.ofString ".") t2] ((57, tabObj ps) :: news) (TrlP ws st news) := by
  exact fun p loose mean mg mb dp un gd cn cs a ccd cl outer A₀ base h₀ L m s Q E => pick_all Ktrl.ne (P := Ktrl.Goal) Ktrl.goal_q ⟨w, ws, tx0, st, t2, news, ps, p, loose, mean, mg, mb, dp, un, gd, cn, cs, a, ccd, cl, outer, A₀, base, h₀, L, m, s, Q, E⟩ hx hs hne ok h57
end S_FTl
section S_FJn
noncomputable def joinedL (ls : List (List Nat)) : List Nat := [40, 63, 115, 58] ++ ls.flatten ++ [46, 42, 41, 92, 90]
namespace Kjn
abbrev Par : Type := (World) × (List (List Nat)) × (List Value) × (Nat) × (Addr) × (Addr) × (Led) × (Program) × (List PySem.Str) × (ExcName → Option Value) × (PySem.Str → Option Value) × (PySem.Str → Option Value) × (Nat) × (Nat) × (Option (List Code)) × (PySem.Str) × (Scope) × (Addr) × (Value) × (List (PySem.Str × Addr)) × (List Env) × (Around) × (Heap) × (Heap) × (Addr) × (PySem.Str → Option Value) × (Shared) × (Value → Shared → Prop) × (Value → Shared → Prop)
theorem ne : Nonempty Par := ⟨by refine ⟨?_, ?_, ?_, ?_, ?_, ?_, ?_, ?_, ?_, ?_, ?_, ?_, ?_, ?_, ?_, ?_, ?_, ?_, ?_, ?_, ?_, ?_, ?_, ?_, ?_, ?_, ?_, ?_, ?_⟩ <;> first | exact W0 | exact default | exact {} | exact FD0⟩
noncomputable def Goal : Par → Prop := fun e0 => (fun (w : World) (ls : List (List Nat)) (vs : List Value) (cap : Nat) (st : Addr) (l : Addr) (news : Led) (p : Program) (loose : List PySem.Str) (mean : ExcName → Option Value) (mg : PySem.Str → Option Value) (mb : PySem.Str → Option Value) (dp : Nat) (un : Nat) (gd : Option (List Code)) (cn : PySem.Str) (cs : Scope) (a : Addr) (ccd : Value) (cl : List (PySem.Str × Addr)) (outer : List Env) (A₀ : Around) (base : Heap) (h₀ : Heap) (L : Addr) (m : PySem.Str → Option Value) (s : Shared) (Q : Value → Shared → Prop) (E : Value → Shared → Prop) => (hv : F2 TxtV ls vs) → (hl : ls.length ≤ 40) → (hll : ∀ x ∈ ls, x.length ≤ 10) → (hn : ∀ p ∈ news, p.1 ≠ l) → FnG w 980 69 [.ref l, .ref st] ((l, W.listOf (vs ++ [Value.ref st]).toArray cap) :: news) (fun r n' => (∃ t, r = .str (tx (joinedL ls)) t) ∧ n' = (l, W.listOf (vs ++ [Value.ref st]).toArray cap) :: news) p loose mean mg mb dp un gd cn cs a ccd cl outer A₀ base h₀ L m s Q E) e0.1 e0.2.1 e0.2.2.1 e0.2.2.2.1 e0.2.2.2.2.1 e0.2.2.2.2.2.1 e0.2.2.2.2.2.2.1 e0.2.2.2.2.2.2.2.1 e0.2.2.2.2.2.2.2.2.1 e0.2.2.2.2.2.2.2.2.2.1 e0.2.2.2.2.2.2.2.2.2.2.1 e0.2.2.2.2.2.2.2.2.2.2.2.1 e0.2.2.2.2.2.2.2.2.2.2.2.2.1 e0.2.2.2.2.2.2.2.2.2.2.2.2.2.1 e0.2.2.2.2.2.2.2.2.2.2.2.2.2.2.1 e0.2.2.2.2.2.2.2.2.2.2.2.2.2.2.2.1 e0.2.2.2.2.2.2.2.2.2.2.2.2.2.2.2.2.1 e0.2.2.2.2.2.2.2.2.2.2.2.2.2.2.2.2.2.1 e0.2.2.2.2.2.2.2.2.2.2.2.2.2.2.2.2.2.2.1 e0.2.2.2.2.2.2.2.2.2.2.2.2.2.2.2.2.2.2.2.1 e0.2.2.2.2.2.2.2.2.2.2.2.2.2.2.2.2.2.2.2.2.1 e0.2.2.2.2.2.2.2.2.2.2.2.2.2.2.2.2.2.2.2.2.2.1 e0.2.2.2.2.2.2.2.2.2.2.2.2.2.2.2.2.2.2.2.2.2.2.1 e0.2.2.2.2.2.2.2.2.2.2.2.2.2.2.2.2.2.2.2.2.2.2.2.1 e0.2.2.2.2.2.2.2.2.2.2.2.2.2.2.2.2.2.2.2.2.2.2.2.2.1 e0.2.2.2.2.2.2.2.2.2.2.2.2.2.2.2.2.2.2.2.2.2.2.2.2.2.1 e0.2.2.2.2.2.2.2.2.2.2.2.2.2.2.2.2.2.2.2.2.2.2.2.2.2.2.1 e0.2.2.2.2.2.2.2.2.2.2.2.2.2.2.2.2.2.2.2.2.2.2.2.2.2.2.2.1 e0.2.2.2.2.2.2.2.2.2.2.2.2.2.2.2.2.2.2.2.2.2.2.2.2.2.2.2.2
noncomputable def q : Par := pick ne Goal
@[irreducible] noncomputable def w : World := q.1
@[irreducible] noncomputable def ls : List (List Nat) := q.2.1
@[irreducible] noncomputable def vs : List Value := q.2.2.1
@[irreducible] noncomputable def cap : Nat := q.2.2.2.1
@[irreducible] noncomputable def st : Addr := q.2.2.2.2.1
@[irreducible] noncomputable def l : Addr := q.2.2.2.2.2.1
@[irreducible] noncomputable def news : Led := q.2.2.2.2.2.2.1
@[irreducible] noncomputable def p : Program := q.2.2.2.2.2.2.2.1
@[irreducible] noncomputable def loose : List PySem.Str := q.2.2.2.2.2.2.2.2.1
@[irreducible] noncomputable def mean : ExcName → Option Value := q.2.2.2.2.2.2.2.2.2.1
@[irreducible] noncomputable def mg : PySem.Str → Option Value := q.2.2.2.2.2.2.2.2.2.2.1
@[irreducible] noncomputable def mb : PySem.Str → Option Value := q.2.2.2.2.2.2.2.2.2.2.2.1
@[irreducible] noncomputable def dp : Nat := q.2.2.2.2.2.2.2.2.2.2.2.2.1
@[irreducible] noncomputable def un : Nat := q.2.2.2.2.2.2.2.2.2.2.2.2.2.1
@[irreducible] noncomputable def gd : Option (List Code) := q.2.2.2.2.2.2.2.2.2.2.2.2.2.2.1
@[irreducible] noncomputable def cn : PySem.Str := q.2.2.2.2.2.2.2.2.2.2.2.2.2.2.2.1
@[irreducible] noncomputable def cs : Scope := q.2.2.2.2.2.2.2.2.2.2.2.2.2.2.2.2.1
@[irreducible] noncomputable def a : Addr := q.2.2.2.2.2.2.2.2.2.2.2.2.2.2.2.2.2.1
@[irreducible] noncomputable def ccd : Value := q.2.2.2.2.2.2.2.2.2.2.2.2.2.2.2.2.2.2.1
@[irreducible] noncomputable def cl : List (PySem.Str × Addr) := q.2.2.2.2.2.2.2.2.2.2.2.2.2.2.2.2.2.2.2.1
@[irreducible] noncomputable def outer : List Env := q.2.2.2.2.2.2.2.2.2.2.2.2.2.2.2.2.2.2.2.2.1
@[irreducible] noncomputable def A₀ : Around := q.2.2.2.2.2.2.2.2.2.2.2.2.2.2.2.2.2.2.2.2.2.1
@[irreducible] noncomputable def base : Heap := q.2.2.2.2.2.2.2.2.2.2.2.2.2.2.2.2.2.2.2.2.2.2.1
@[irreducible] noncomputable def h₀ : Heap := q.2.2.2.2.2.2.2.2.2.2.2.2.2.2.2.2.2.2.2.2.2.2.2.1
@[irreducible] noncomputable def L : Addr := q.2.2.2.2.2.2.2.2.2.2.2.2.2.2.2.2.2.2.2.2.2.2.2.2.1
@[irreducible] noncomputable def m : PySem.Str → Option Value := q.2.2.2.2.2.2.2.2.2.2.2.2.2.2.2.2.2.2.2.2.2.2.2.2.2.1
@[irreducible] noncomputable def s : Shared := q.2.2.2.2.2.2.2.2.2.2.2.2.2.2.2.2.2.2.2.2.2.2.2.2.2.2.1
@[irreducible] noncomputable def Q : Value → Shared → Prop := q.2.2.2.2.2.2.2.2.2.2.2.2.2.2.2.2.2.2.2.2.2.2.2.2.2.2.2.1
@[irreducible] noncomputable def E : Value → Shared → Prop := q.2.2.2.2.2.2.2.2.2.2.2.2.2.2.2.2.2.2.2.2.2.2.2.2.2.2.2.2
noncomputable def BH (g₉ : Heap) (l₉ : Addr) (h₉ : Heap) (t₉ : Nat) : Prop := BodyH w 69 68 9 [(PySem.Str.ofString "STAR", .ref st), (PySem.Str.ofString "inp", .ref l)] ((l, W.listOf (vs ++ [Value.ref st]).toArray cap) :: news) p loose mean mg mb dp un gd cn cs a ccd cl outer base h₀ L m s Q E (rfl : stm 9 = _) g₉ l₉ h₉ t₉
noncomputable def ev : EV := pick evne (fun e => BH e.g e.l e.h e.t)
@[irreducible] noncomputable def g' : Heap := ev.g
@[irreducible] noncomputable def L' : Addr := ev.l
@[irreducible] noncomputable def h' : Heap := ev.h
@[irreducible] noncomputable def tk' : Nat := ev.t
theorem body (hv : F2 TxtV ls vs) (hl : ls.length ≤ 40) (hll : ∀ x ∈ ls, x.length ≤ 10) (hn : ∀ p ∈ news, p.1 ≠ l) (B : Below A₀ base outer h₀) (X : (K0 w.params).In h₀) (T : Top p loose mean mg mb h₀) (C1 : CodeHd h₀ 61 57) (C2 : CodeHd h₀ 170 168) (hk : cs.kind = .function) (hd : dp < 980) (hu : un < 8 * 980) (hret : ∀ r news' h' tk', Fr h₀ L h' m → News h₀ L h' news' → ((fun r n' => (∃ t, r = .str (tx (joinedL ls)) t) ∧ n' = (l, W.listOf (vs ++ [Value.ref st]).toArray cap) :: news)) r news' → Q r { s with heap := h', toks := tk' }) : BH g' L' h' tk' := by
  w_on
  intro F' N' B' X' T' C1' C2' lt'
  (try dsimp only)
  have hlen : vs.length = ls.length := hv.length.symm
  have hsz : (vs ++ [Value.ref st]).toArray.size ≤ 100000 := by rw [List.size_toArray]; simp; omega
  have hnn : (((vs ++ [Value.ref st]).toArray.size : Nat) : Int) = (ls.length : Nat) + 1 := by rw [List.size_toArray]; simp [hlen]
  k_steps
  rename_i lr _ l1r _ qa _ l1a _ _ _ _ _ _ _ FW NW
  refine Stop.go (while_k [PySem.Str.ofString "i"] (fun kk m' n' => ∃ (k : Nat) (cap2 : Nat), k + kk = ls.length ∧ HasI m' (PySem.Str.ofString "i") (k : Nat) ∧ n' = (qa, appO lr) :: (lr, W.listOf (vs.take k).toArray cap2) :: (l, W.listOf (vs ++ [Value.ref st]).toArray cap) :: news) ls.length
    ((qa, appO lr) :: (lr, W.listOf #[] 0) :: (l, W.listOf (vs ++ [Value.ref st]).toArray cap) :: news) FW NW (Sub.skip Sub.refl) ⟨0, 0, by simp, .of rfl rfl, by simp⟩ (by k_extra "own") ?_)
  intro kk m1 n1 h1 tk1 Q1
  rintro ⟨k, cap2, e1, ⟨ti, e3⟩, e4⟩ F1 N1 hQ1
  clear FW NW
  subst e4
  dsimp only [mapK] at F1
  rw [e3] at F1
  dsimp only
  have hit : ∀ k : Nat, k ≤ ls.length → ∃ v, (vs ++ [Value.ref st])[k]? = some v ∧ ItemAt (vs ++ [Value.ref st]).toArray (k : Int) v := by
    intro k hk
    have hk' : k < (vs ++ [Value.ref st]).length := by simp; omega
    exact ⟨_, List.getElem?_eq_getElem hk', hsz, .inl ⟨by omega, by simp [hk']⟩⟩
  by_cases hk2 : k < ls.length
  · obtain ⟨v, hv1, hv2⟩ := hit k (by omega)
    obtain ⟨x, hx⟩ : ∃ x, ls[k]? = some x := ⟨_, List.getElem?_eq_getElem hk2⟩
    obtain ⟨v', hv3, ⟨tv, rfl⟩⟩ := hv.get k hx
    have hv5 : v = Value.str (tx x) tv := by
      rw [List.getElem?_append_left (by omega), hv3] at hv1
      exact (Option.some.inj hv1).symm
    subst hv5
    have hsz2 : (vs.take k).toArray.size ≤ 100000 := by rw [List.size_toArray]; simp; omega
    have hlt : decide ((k : Int) < (ls.length : Nat) + 1) = true := by simp; omega
    k_steps
    refine ⟨fun _ => ?_, (fun h => nomatch h)⟩
    k_steps
    · exact News.get (by assumption) (by k_mem)
    · refine AgainW.next (by assumption) (by assumption) (k' := kk - 1) (by omega) (fun _ h => h) ⟨by k_extra "kept", k + 1, ?cap1, by omega, .of rfl ?a1, ?c1⟩
      case a1 => omega
      case c1 =>
        have e : vs.take (k + 1) = vs.take k ++ [Value.str (tx x) tv] := by rw [List.take_add_one, hv3]; rfl
        rw [List.push_toArray, e]
  · obtain rfl : kk = 0 := by omega
    obtain rfl : k = ls.length := by omega
    have hlt : decide (((ls.length : Nat) : Int) < (ls.length : Nat) + 1) = true := by simp; omega
    have hq : (((ls.length : Nat) : Int) + 1 == ((ls.length : Nat) : Int) + 1) = true := beq_self_eq_true _
    have hit1 : ItemAt (vs ++ [Value.ref st]).toArray ((ls.length : Nat) : Int) (Value.ref st) := by
      obtain ⟨v, h1, h2⟩ := hit ls.length (Nat.le_refl _)
      rw [← hlen, List.getElem?_concat_length] at h1
      cases h1; exact h2
    have hv4 : F2 TxtV ls (vs.take ls.length) := by rw [← hlen, List.take_length]; exact hv
    have hsz2 : (vs.take ls.length).toArray.size ≤ 100000 := by rw [List.size_toArray]; simp; omega
    k_steps
    all_goals (first | (exfalso; omega) | skip)
    refine ⟨(fun h => nomatch h), fun _ => ?_⟩
    k_steps
    refine Stop.go (whl_start 3 ?_)
    k_steps
    · exact News.get (by assumption) (by k_mem)
    · rename News _ _ _ _ => NL
      simp only [List.push_toArray] at NL
      with_unfolding_all refine join_my (sl := []) (ls := ls ++ [[46, 42]]) NL (by k_mem) (hv4.snoc ⟨_, rfl⟩) (by simp) (by simp; omega) ?hj ?_
      case hj =>
        intro y hy
        rcases List.mem_append.mp hy with h | h
        · have := hll y h; omega
        · simp at h; subst h; simp
      intro t' k'
      have hj0 : joinWith [] (ls ++ [[46, 42]]) = ls.flatten ++ [46, 42] := by rw [joinWith_nil]; simp
      have hfl : ls.flatten.length ≤ 400 := by
        have : ∀ r : List (List Nat), (∀ x ∈ r, x.length ≤ 10) → r.flatten.length ≤ 10 * r.length := by
          intro r
          induction r with
          | nil => intro _; simp
          | cons y r ih =>
            intro hr
            have h1 := hr y List.mem_cons_self
            have h2 := ih fun x hx => hr x (List.mem_cons_of_mem _ hx)
            simp only [List.flatten_cons, List.length_append, List.length_cons]
            omega
        have := this ls hll
        omega
      rw [hj0]
      have hjl : (tx (ls.flatten ++ [46, 42])).length ≤ 500 := by rw [tx_length, List.length_append]; simp only [List.length_cons, List.length_nil]; omega
      k_steps
      rename News _ _ _ _ => NZ
      refine hret _ _ _ _ (by assumption) (fun p hp => NZ p (Sub.skip (Sub.skip Sub.refl) p hp)) ⟨⟨_, congrArg (Value.str · _) ?_⟩, rfl⟩
      have e1 : PySem.Str.ofString "(?s:" = tx [40, 63, 115, 58] := by decide +kernel
      have e2 : PySem.Str.ofString ")\\Z" = tx [41, 92, 90] := by decide +kernel
      rw [show PySem.Str.empty = tx [] from rfl, e1, e2, tx_append, tx_append, tx_append]
      congr 1
      simp [joinedL]
    all_goals (exfalso; simp_all; done)
theorem main (hv : F2 TxtV ls vs) (hl : ls.length ≤ 40) (hll : ∀ x ∈ ls, x.length ≤ 10) (hn : ∀ p ∈ news, p.1 ≠ l) : FnG w 980 69 [.ref l, .ref st] ((l, W.listOf (vs ++ [Value.ref st]).toArray cap) :: news) (fun r n' => (∃ t, r = .str (tx (joinedL ls)) t) ∧ n' = (l, W.listOf (vs ++ [Value.ref st]).toArray cap) :: news) p loose mean mg mb dp un gd cn cs a ccd cl outer A₀ base h₀ L m s Q E := by
  intro B F X N T C1 C2 hk hd hu hret
  refine wpAny_call ?_
  with_unfolding_all refine' code_my (binds := [(PySem.Str.ofString "STAR", .ref st), (PySem.Str.ofString "inp", .ref l)]) B F X N T C1 C2 ?kA ?kF ?kK ?ko ?est ?kcd ?kroom ?kbind ?kloc (fun g₁ l₁ h₁ t₁ _ => pick_all evne (P := fun e => BH e.g e.l e.h e.t) ?bd ⟨g₁, l₁, h₁, t₁⟩) ?kco ?kgen ?kkind ?kcell
  (case kA => exact rfl)
  (case kF => exact rfl)
  (case kK => exact hk)
  (case ko => k_is)
  (case est => exact rfl)
  (case kcd => k_is)
  (case kroom => (show dp < 1000; omega))
  (case kbind => exact BindsTo.of_eq rfl)
  (case kloc => exact locs rfl)
  (case kco => exact rfl)
  (case kgen => exact rfl)
  (case kkind => exact rfl)
  (case kcell => decide)
  (case bd => with_unfolding_all exact body hv hl hll hn B X T C1 C2 hk hd hu hret)
theorem goal_q : Goal q := by with_unfolding_all exact main
end Kjn
theorem jn (w : World) (ls : List (List Nat)) (vs : List Value) (cap : Nat) (st l : Addr) (news : Led) (hv : F2 TxtV ls vs) (hl : ls.length ≤ 40) (hll : ∀ x ∈ ls, x.length ≤ 10) (hn : ∀ p ∈ news, p.1 ≠ l) :
    Fn w 980 69 [.ref l, .ref st] ((l, W.listOf (vs ++ [Value.ref st]).toArray cap) :: news) (fun r n' => (∃ t, r = .str (tx (joinedL ls)) t) ∧ n' = (l, W.listOf (vs ++ [Value.ref st]).toArray cap) :: news) := by
  exact fun p loose mean mg mb dp un gd cn cs a ccd cl outer A₀ base h₀ L m s Q E => pick_all Kjn.ne (P := Kjn.Goal) Kjn.goal_q ⟨w, ls, vs, cap, st, l, news, p, loose, mean, mg, mb, dp, un, gd, cn, cs, a, ccd, cl, outer, A₀, base, h₀, L, m, s, Q, E⟩ hv hl hll hn
end S_FJn
end G_FTl
section S_FTrn
local macro_rules | `(tactic| walk_at "no rule") => `(tactic| skip)
local macro_rules | `(tactic| walk_at "call ref") => `(tactic| ((with_reducible show wpAny _ _ (call (Value.ref 62) _) _ _ _); refine Stop.mk ?_))
local macro_rules | `(tactic| walk_at "call ref") => `(tactic| ((with_reducible show wpAny _ _ (call (Value.ref 69) _) _ _ _); refine Stop.mk ?_))
example : True := by
  k_with "call type:object" => ((refine' object_my ?k1 ?k2 ?_; (case k1 => k_asm); (case k2 => k_asm); (walk_at "l5"; (try k_sweep))))
  trivial
theorem escL_len (c : Nat) : (escL c).length ≤ 2 := by unfold escL; split <;> simp
theorem pieceL_len (c : Nat) : (pieceL c).length ≤ 4 := by
  unfold pieceL
  have := escL_len c
  split
  · simp
  · split
    · simp
    · omega
theorem translate (w : World) (ws : List Nat) (tx0 : Tok) (news : Led) (hx : ws.length ≤ 30) (hs : ∀ c ∈ ws, c ∈ signs17) (hne : ws ≠ []) (ps : Array Value) (ok : TabOk ps) (h57 : ∀ p ∈ news, p.1 ≠ 57) :
    Fn w 970 43 [.str (tx (patL ws)) tx0] ((57, tabObj ps) :: news) (fun r n' => (∃ t, r = .str (tx (joinedL (ws.map pieceL))) t) ∧ ∃ ps', TabOk ps' ∧ n' = (57, tabObj ps') :: news) := by
  w_on
  refine fn_in ?_
  intro p loose mean mg mb dp un gd cn cs a ccd cl outer A₀ base h₀ L m shQ sgQ sdQ stQ soQ Q E B F X N T C1 C2 hk hd hu hret
  with_unfolding_all refine' code_my (binds := [(PySem.Str.ofString "pat", .str (tx (patL ws)) tx0)]) B F X N T C1 C2 ?kA ?kF ?kK ?ko ?est ?kcd ?kroom ?kbind ?kloc ?_ ?kco ?kgen ?kkind ?kcell
  (case kA => exact rfl)
  (case kF => exact rfl)
  (case kK => exact hk)
  (case ko => k_is)
  (case est => exact rfl)
  (case kcd => k_is)
  (case kroom => (show dp < 1000; omega))
  (case kbind => exact BindsTo.of_eq rfl)
  (case kloc => exact locs rfl)
  (case kco => exact rfl)
  (case kgen => exact rfl)
  (case kkind => exact rfl)
  (case kcell => decide)
  intro g' L' h' tk' FG' F' N' B' X' T' C1' C2' lt'
  clear F N FG'
  (try dsimp only)
  (try k_fold)
  k_steps
  rename_i st _ l1 _ FW NW
  refine Stop.go ?_
  refine fn_use (trl w ws _ st _ ((st, objO) :: news) hx hs hne ps ok ?h57) (by assumption) FW X' (fun p hp => NW p ?hp) T' C1' C2' (by rfl) (by k_extra "dep") (by k_extra "dep") ?_
  case h57 =>
    intro p hp
    rcases List.mem_cons.mp hp with rfl | hp
    · have := l1.1; exact Nat.ne_of_gt this
    · exact h57 p hp
  case hp =>
    revert p
    exact Sub.cons (by k_mem) (Sub.cons (by k_mem) (Sub.skip (Sub.skip Sub.refl)))
  rintro r' n' h' tk' F' N' ⟨l, vs, ps', cap, ok', hv, rfl, rfl, hl1, hl2⟩
  dsimp only
  k_steps
  refine Stop.go ?_
  refine fn_use (jn w (ws.map pieceL) vs cap st l ((57, tabObj ps') :: (st, objO) :: news) hv (by simp; omega) ?hj1 ?hj2) (by assumption) (by assumption) X' (by assumption) T' C1' C2' (by rfl) (by k_extra "dep") (by k_extra "dep") ?_
  case hj1 =>
    intro x hx
    obtain ⟨c, _, rfl⟩ := List.mem_map.mp hx
    have := pieceL_len c; omega
  case hj2 =>
    intro p hp
    rcases List.mem_cons.mp hp with rfl | hp
    · exact Nat.ne_of_lt hl1
    · exact Nat.ne_of_lt (hl2 p hp)
  rintro r' n' h' tk' F' N' ⟨⟨t, rfl⟩, rfl⟩
  dsimp only
  k_steps
  rename News _ _ _ _ => NZ
  exact hret _ _ _ _ (by assumption) (fun p hp => NZ p (Sub.skip (Sub.cons List.mem_cons_self (Sub.skip (Sub.skip Sub.refl))) p hp)) ⟨⟨_, rfl⟩, ps', ok', rfl⟩
end S_FTrn
section S_Cp
open PyProof.Rows.LCg PyProof.Rows.LCt
section
variable {prog : Program} {w : World} {A : Around} {E : Value → Shared → Prop} {s : Shared} {h₀ : Heap} {L : Addr} {m : PySem.Str → Option Value} {env : Env} {elt ct iter : Expr} {x : PySem.Str} {px : Pos} {scope : Scope} {cl : List (PySem.Str × Addr)} {pos : Pos}
theorem compRest_inv {S : Led → Prop} {P : Nat → Value → Prop} {Fin : List Value → Led → Prop} {n : Nat} {news : Led} (J : Nat → List Value → Prop)
    (step : ∀ i ys v I oI C oC D m₂ h tk (E' : Value → Shared → Prop), i < n → J i ys → P i v → NsObj oC m₂ → m₂ x = some v → Fr h₀ L h m → News h₀ L h ((I, oI) :: (C, oC) :: (D, lst ys) :: news) → Off3 I C D news → ((@Ne Nat I C) ∧ (@Ne Nat I D) ∧ (@Ne Nat C D)) →
      wpAny (model prog w) A (eval elt (compEnvC scope cl C env)) (CompEnd h₀ L m { s with heap := h, toks := tk } I oI C oC D (lst ys) S (fun y news' => news' = news ∧ J (i + 1) (ys ++ [y]))) E' { s with heap := h, toks := tk })
    (fin : ∀ ys, J n ys → Fin ys news) : ∀ k i ys, i + k = n → J i ys → CompRest prog w A h₀ L m env elt x scope cl s S P Fin k i ys news
  | 0, i, ys, e, hj => .zero (fin ys ((Nat.add_zero i).symm.trans e ▸ hj))
  | k + 1, i, ys, e, hj => .succ fun v I oI C oC D m₂ h tk E' hP ho hx F N off ne =>
      wpAny_mono (step i ys v I oI C oC D m₂ h tk E' (by omega) hj hP ho hx F N off ne) (fun y s₂ ⟨h', tk', news', e1, F', N', off', hS, e2, hj'⟩ => by
        subst e2
        exact ⟨h', tk', news', e1, F', N', off', hS, compRest_inv J step fin k (i + 1) _ (by omega) hj'⟩) fun _ _ e => e
theorem str_st {I : Addr} {ty : String} {y : PySem.Str} {t : Tok} : ∀ i (h h' : Heap) (o : Obj) (nw : Led), h.IsStrIter I ty y t i → h.get? I = some o → h'.get? I = some o → (∀ b o, h₀.get? b = some o → h'.get? b = some o) → News h₀ L h' nw → True → h'.IsStrIter I ty y t i :=
  fun i h h' o nw st e e' _ _ _ => by
    obtain ⟨o', q, r⟩ := st
    rw [e] at q; cases q
    exact ⟨o, e', r⟩
inductive SrcS (prog : Program) (w : World) (A : Around) (h₀ : Heap) (L : Addr) (m : PySem.Str → Option Value) (env : Env) (elt : Expr) (x : PySem.Str) (scope : Scope) (cl : List (PySem.Str × Addr)) (Fin : Shared → List Value → Led → Prop) (xv : Value) (s₁ : Shared) : Prop
  | mk (y : PySem.Str) (t : Tok) (news : Led) (c1 : xv = .str y t) (c2 : y.cps.all (· < 128) = true) (c3 : A.handled = none) (c4 : Fr h₀ L s₁.heap m) (c5 : News h₀ L s₁.heap news) (c6 : y.cps.size ≤ sizeLine) (c7 : ∀ s₂ : Shared, (∃ h, s₂ = { s₁ with heap := h }) → CompRest prog w A h₀ L m env elt x scope cl s₂ (fun _ => True) (SignAt y) (Fin s₂) y.cps.size 0 [] news) : SrcS prog w A h₀ L m env elt x scope cl Fin xv s₁
theorem ListComp_S {Q : Value → Shared → Prop} (F₀ : Fr h₀ L s.heap m)
    (hclos : closureFor scope env = pure cl) (hcell : ∀ y ∈ scope.names, y.2 ≠ .cell) (hkind : scope.kind = .function)
    (hnames : ∀ y ∈ scope.names, y.2 = .local → scope.names.lookup y.1 = some .local) (hx : scope.names.lookup x = some .local)
    (h : wpAny (model prog w) A (eval iter env) (SrcS prog w A h₀ L m env elt x scope cl (fun s₂ => FinE h₀ L m s₂ Q)) E s)
    (hs : ∀ x, foldedSetIterable iter env x = pure x := by intro _; rfl) :
    wpAny (model prog w) A (eval (.ListComp elt [⟨.Name x px, iter, [], 0⟩] scope pos) env) Q E s := by
  rw [eval_ListComp]
  refine wpAny_comprehension_free (use := none) rfl hs hclos hkind hnames (wpAny_mono h (fun xv s₁ h₁ => ?_) fun _ _ e => e)
  obtain ⟨y, t, news, rfl, ha, hh, F, N, hsz, R⟩ := h₁
  refine wpAny_pyIter_ascii ha ?_
  have up : ∀ b o, s₁.heap.get? b = some o → (s₁.heap.push { cls := .type "str_ascii_iterator", data := .fields #[.str y t, .int 0 0] }).get? b = some o := fun b o e => Heap.get?_push_of_some _ e
  refine block_U (Walks.strAscii hh s₁.heap.objs.size y t) hsz (fun i h st => by obtain ⟨o, e, _⟩ := st; exact ⟨o, e⟩) str_st hcell hkind hx ⟨_, Heap.get?_push_size _ rfl, rfl, rfl⟩ (fun b hb => ?_)
    (F.keeps up) (N.grown up) (Nat.ne_of_lt F.ns.lt) (next_is_new F) (fun p hp => Nat.ne_of_lt (Heap.lt_size (N p hp).1)) trivial (R _ ⟨_, rfl⟩) ?_
  · rw [List.mem_singleton.mp hb]
    show s₁.heap.objs.size < (s₁.heap.push _).objs.size
    rw [Heap.size_push]; exact Nat.lt_succ_self _
  · intro D C h tk m' ys news' F' N' o1 hn hC₀ hD₀ hCL hDL hCD offC fin
    refine ⟨m', hn, fun h'' hs'' => fin D h'' tk (F'.change hs'' hCL hC₀) (fun p hp => ?_) o1⟩
    refine ⟨hs''.extBut _ _ ?_ (N' p hp).1, (N' p hp).2⟩
    rcases List.mem_cons.mp hp with rfl | hp
    · exact Ne.symm hCD
    · exact offC p hp
end
end S_Cp
section S_FWr
local macro_rules | `(tactic| walk_at "eval ListComp") => `(tactic| (refine Stop.mk ?_))
open PyProof.Rows.LCg
theorem star_in : ∀ c ∈ signs17, (Builtin.Str.occurrences (PySem.Str.ofString "*?[") { cps := #[c] } 0 (PySem.Str.ofString "*?[").length 1).isEmpty = !(decide (c = 42 ∨ c = 63 ∨ c = 91)) := by decide +kernel
theorem written (w : World) (ws : List Nat) (tx0 : Tok) (news : Led) (hx : ws.length ≤ 30) (hs : ∀ c ∈ ws, c ∈ signs17) :
    Fn w 980 133 [.str (tx ws) tx0] news (fun r n' => (∃ t, r = .str (tx (ws.flatMap wr)) t) ∧ n' = news) := by
  w_on
  refine fn_in ?_
  intro p loose mean mg mb dp un gd cn cs a ccd cl outer A₀ base h₀ L m shQ sgQ sdQ stQ soQ Q E B F X N T C1 C2 hk hd hu hret
  with_unfolding_all refine' code_my (binds := [(PySem.Str.ofString "word", .str (tx ws) tx0)]) B F X N T C1 C2 ?kA ?kF ?kK ?ko ?est ?kcd ?kroom ?kbind ?kloc ?_ ?kco ?kgen ?kkind ?kcell
  (case kA => exact rfl)
  (case kF => exact rfl)
  (case kK => exact hk)
  (case ko => k_is)
  (case est => exact rfl)
  (case kcd => k_is)
  (case kroom => (show dp < 1000; omega))
  (case kbind => exact BindsTo.of_eq rfl)
  (case kloc => exact locs rfl)
  (case kco => exact rfl)
  (case kgen => exact rfl)
  (case kkind => exact rfl)
  (case kcell => decide)
  intro g' L' h' tk' FG' F' N' B' X' T' C1' C2' lt'
  clear F N FG'
  (try dsimp only)
  (try k_fold)
  k_steps
  rename Fr _ _ _ _ => FW
  rename News _ _ _ _ => NW
  refine Stop.go (ListComp_S FW (by rfl) (by decide) (by rfl) (by decide) (by rfl) ?_)
  k_steps
  have hsz : (tx ws).cps.size = ws.length := by simp [tx]
  have h128 : ∀ c ∈ signs17, c < 128 := by decide
  refine ⟨_, _, _, rfl, ?ha, rfl, by assumption, by assumption, by rw [hsz]; unfold sizeLine; omega, fun s₂ ⟨hp, e⟩ => ?_⟩
  case ha =>
    unfold tx
    simp only [List.size_toArray, List.all_toArray', List.all_eq_true, decide_eq_true_eq]
    exact fun c hc => h128 c (hs c hc)
  subst e
  refine compRest_inv (fun i ys => F2 TxtV ((ws.take i).map wr) ys) ?_ ?_ _ 0 [] (Nat.zero_add _) (by simpa using F2.nil)
  · rintro i ys v I oI C oC D m₂ h tk E' hi hj ⟨c, u, hc, rfl⟩ ho hx2 F N off ne
    clear FW NW
    have hc2 : ws[i]? = some c := by simpa [tx] using hc
    have hc3 : c ∈ signs17 := hs c (List.mem_of_getElem? hc2)
    have etake : ws.take (i + 1) = ws.take i ++ [c] := by rw [List.take_add_one, hc2]; rfl
    have hcond := star_in c hc3
    by_cases hb : c = 42 ∨ c = 63 ∨ c = 91
    · rw [decide_eq_true hb] at hcond
      have hcond2 : (Builtin.Str.occurrences (PySem.Str.ofString "*?[") { cps := #[c] } 0 (PySem.Str.ofString "*?[").length 1).isEmpty = false := hcond
      k_steps
      refine CompEnd.intro (by assumption) (by assumption) news Sub.refl off trivial ⟨rfl, ?_⟩
      rw [etake, List.map_append]
      refine hj.snoc ⟨_, congrArg (Value.str · _) ?_⟩
      unfold wr
      rw [if_pos hb]
      rfl
    · rw [decide_eq_false hb] at hcond
      have hcond2 : (Builtin.Str.occurrences (PySem.Str.ofString "*?[") { cps := #[c] } 0 (PySem.Str.ofString "*?[").length 1).isEmpty = true := hcond
      k_steps
      refine CompEnd.intro (by assumption) (by assumption) news Sub.refl off trivial ⟨rfl, ?_⟩
      rw [etake, List.map_append]
      refine hj.snoc ⟨_, congrArg (Value.str · _) ?_⟩
      unfold wr
      rw [if_neg hb]
      rfl
  · intro ys hj D h tk F N off
    rw [hsz, List.take_length] at hj
    clear FW NW
    k_steps
    rename News _ _ _ _ => NL
    with_unfolding_all refine join_my (sl := []) NL (k := ys.length) List.mem_cons_self hj (by simp) (by simp; omega) ?hj ?_
    case hj =>
      intro y hy
      obtain ⟨c, _, rfl⟩ := List.mem_map.mp hy
      have := wr_len c; omega
    intro t' k'
    k_steps
    rename News _ _ _ _ => NZ
    refine hret _ _ _ _ (by assumption) (fun p hp => NZ p (Sub.skip Sub.refl p hp)) ⟨⟨_, congrArg (Value.str · _) ?_⟩, rfl⟩
    rw [joinWith_nil, List.flatMap_def]
end S_FWr
section S_Rd
noncomputable abbrev tupO (c : Nat) (t : Tok) : Obj := { cls := .type "tuple", data := .seq #[.bool false, .str (tx [c]) t] }
noncomputable def ItmV (tl : Led) (c : Nat) (v : Value) : Prop := ∃ a t, v = .ref a ∧ (a, tupO c t) ∈ tl
theorem ItmV.cons {tl : Led} {p : Addr × Obj} {c : Nat} {v : Value} (h : ItmV tl c v) : ItmV (p :: tl) c v := let ⟨a, t, e, hm⟩ := h; ⟨a, t, e, List.mem_cons_of_mem _ hm⟩
noncomputable def bodyL (ws : List Nat) : List Nat := (ws.map pieceL).flatten
noncomputable def readL (ws : List Nat) : List Nat := joinedL (ws.map pieceL)
theorem readL_eq (ws : List Nat) : readL ws = [40, 63, 115, 58] ++ (bodyL ws ++ [46, 42, 41, 92, 90]) := by simp [readL, joinedL, bodyL]
theorem bodyL_len (ws : List Nat) : (bodyL ws).length ≤ 4 * ws.length := by
  unfold bodyL
  induction ws with
  | nil => simp
  | cons c ws ih =>
    have := pieceL_len c
    simp only [List.map_cons, List.flatten_cons, List.length_append, List.length_cons]
    omega
theorem slice_to {l mid post : List Nat} {j : Int} (e : l = mid ++ post) (hj : j = ((mid.length : Nat) : Int)) : Txt.slice (tx l) none (some j) = tx mid := by
  have h := slice_closes_to (x := tx l) (j := j) ⟨by omega, by subst e; simp [tx]; omega⟩
  rw [eq_of_beq h]
  unfold tx
  congr 2
  subst e hj
  simp
theorem slice_from {l pre mid : List Nat} {i : Int} (e : l = pre ++ mid) (hi : i = ((pre.length : Nat) : Int)) : Txt.slice (tx l) (some i) none = tx mid := by
  have h := slice_closes_from (x := tx l) (i := i) ⟨by omega, by subst e; simp [tx]; omega⟩
  rw [eq_of_beq h]
  unfold tx
  congr 2
  subst e hi
  simp only [List.drop_left', Int.toNat_natCast, List.drop_left]
  exact List.take_of_length_le (by simp; omega)
theorem tx_ne {a b : List Nat} (h : a ≠ b) : (tx a == tx b) = false := by
  apply beq_eq_false_iff_ne.mpr
  intro e
  have := congrArg (fun s : PySem.Str => s.cps.toList) e
  exact h (by simpa [tx] using this)
theorem pieceL_head : ∀ c ∈ signs17, ∃ h r, pieceL c = h :: r ∧ h ≠ 46 := by
  have : ∀ c ∈ signs17, (match pieceL c with | [] => false | h :: _ => h != 46) = true := by decide +kernel
  intro c hc
  have h := this c hc
  cases hp : pieceL c with
  | nil => rw [hp] at h; cases h
  | cons a r => rw [hp] at h; exact ⟨a, r, rfl, by simpa using h⟩
end S_Rd
local macro_rules | `(tactic| k_all) => `(tactic| assumption)
section S_FRd
local macro_rules | `(tactic| walk_at "ite") => `(tactic| first | (refine ite_pos (by decide +kernel) ?_) | (refine ite_neg (by decide +kernel) ?_))
local macro_rules | `(tactic| walk_at $s:str) => if s.getString ∈ ["exec While", "exec While Compare", "exec While BoolOp"] then `(tactic| (refine Stop.mk ?_)) else Lean.Macro.throwUnsupported
local macro_rules | `(tactic| walk_at "in Rd") => `(tactic| skip)
example : True := by
  k_with "call builtin:list.append" => (walk_at "in Rd"; ((try dsimp only [List.nil_append, List.cons_append]); refine' append_K ?k1 ?k2 ?k3 ?_ ?z; (case k1 => k_asm); (case k2 => k_asm); (case k3 => k_upd); (case z => size_fits); (walk_at "i3"; (try k_sweep))))
  trivial
theorem News.swap {h₀ h : Heap} {L : Addr} {a b : Addr × Obj} {r : Led} (N : News h₀ L h (a :: b :: r)) : News h₀ L h (b :: a :: r) := fun p hp => by
  rcases List.mem_cons.mp hp with rfl | hp
  · exact N _ (List.mem_cons_of_mem _ List.mem_cons_self)
  · rcases List.mem_cons.mp hp with rfl | hp
    · exact N _ List.mem_cons_self
    · exact N _ (List.mem_cons_of_mem _ (List.mem_cons_of_mem _ hp))
theorem kinds : ∀ c ∈ signs17, ((c = 97 ∨ c = 98 ∨ c = 33) ∧ pieceL c = [c]) ∨ ((c = 42 ∨ c = 63) ∧ pieceL c = [91, c, 93]) ∨ (c = 91 ∧ pieceL c = [91, 92, 91, 93]) ∨ pieceL c = [92, c] := by decide +kernel
inductive ReadQ (ws : List Nat) (news : Led) (r : Value) (n' : Led) : Prop
  | mk (l : Addr) (vs : List Value) (tl : Led) (cap : Nat) (c1 : r = .ref l) (c2 : F2 (ItmV tl) ws vs) (c3 : n' = (l, W.listOf (vs ++ [Value.none]).toArray cap) :: (tl ++ news)) (c4 : (∀ p ∈ news, p.1 < l)) (c5 : (∀ p ∈ tl, l < p.1)) : ReadQ ws news r n'
inductive RA (ws : List Nat) (l : Addr) (news : Led) (kk : Nat) (m' : PySem.Str → Option Value) (n' : Led) : Prop
  | mk (dn td : List Nat) (vs : List Value) (tl : Led) (cap : Nat) (c1 : ws = dn ++ td) (c2 : kk = td.length + 1) (c3 : HasI m' (PySem.Str.ofString "at") ((4 + (bodyL dn).length : Nat) : Int)) (c4 : F2 (ItmV tl) dn vs) (c5 : (∀ p ∈ tl, l < p.1)) (c6 : n' = (l, W.listOf vs.toArray cap) :: (tl ++ news)) : RA ws l news kk m' n'
inductive RB (ws : List Nat) (l : Addr) (news : Led) (kk : Nat) (m' : PySem.Str → Option Value) (n' : Led) : Prop
  | mk (vs : List Value) (tl : Led) (cap : Nat) (c1 : kk = 0) (c2 : HasI m' (PySem.Str.ofString "at") ((4 + (bodyL ws).length + 2 : Nat) : Int)) (c3 : F2 (ItmV tl) ws vs) (c4 : (∀ p ∈ tl, l < p.1)) (c5 : n' = (l, W.listOf (vs ++ [Value.none]).toArray cap) :: (tl ++ news)) : RB ws l news kk m' n'
namespace Kread
abbrev Par : Type := (World) × (List Nat) × (Tok) × (Led) × (Program) × (List PySem.Str) × (ExcName → Option Value) × (PySem.Str → Option Value) × (PySem.Str → Option Value) × (Nat) × (Nat) × (Option (List Code)) × (PySem.Str) × (Scope) × (Addr) × (Value) × (List (PySem.Str × Addr)) × (List Env) × (Around) × (Heap) × (Heap) × (Addr) × (PySem.Str → Option Value) × (Shared) × (Value → Shared → Prop) × (Value → Shared → Prop)
theorem ne : Nonempty Par := ⟨by refine ⟨?_, ?_, ?_, ?_, ?_, ?_, ?_, ?_, ?_, ?_, ?_, ?_, ?_, ?_, ?_, ?_, ?_, ?_, ?_, ?_, ?_, ?_, ?_, ?_, ?_, ?_⟩ <;> first | exact W0 | exact default | exact {} | exact FD0⟩
noncomputable def Goal : Par → Prop := fun e0 => (fun (w : World) (ws : List Nat) (tx0 : Tok) (news : Led) (p : Program) (loose : List PySem.Str) (mean : ExcName → Option Value) (mg : PySem.Str → Option Value) (mb : PySem.Str → Option Value) (dp : Nat) (un : Nat) (gd : Option (List Code)) (cn : PySem.Str) (cs : Scope) (a : Addr) (ccd : Value) (cl : List (PySem.Str × Addr)) (outer : List Env) (A₀ : Around) (base : Heap) (h₀ : Heap) (L : Addr) (m : PySem.Str → Option Value) (s : Shared) (Q : Value → Shared → Prop) (E : Value → Shared → Prop) => (hx : ws.length ≤ 30) → (hs : ∀ c ∈ ws, c ∈ signs17) → FnG w 960 114 [.str (tx (readL ws)) tx0] news (ReadQ ws news) p loose mean mg mb dp un gd cn cs a ccd cl outer A₀ base h₀ L m s Q E) e0.1 e0.2.1 e0.2.2.1 e0.2.2.2.1 e0.2.2.2.2.1 e0.2.2.2.2.2.1 e0.2.2.2.2.2.2.1 e0.2.2.2.2.2.2.2.1 e0.2.2.2.2.2.2.2.2.1 e0.2.2.2.2.2.2.2.2.2.1 e0.2.2.2.2.2.2.2.2.2.2.1 e0.2.2.2.2.2.2.2.2.2.2.2.1 e0.2.2.2.2.2.2.2.2.2.2.2.2.1 e0.2.2.2.2.2.2.2.2.2.2.2.2.2.1 e0.2.2.2.2.2.2.2.2.2.2.2.2.2.2.1 e0.2.2.2.2.2.2.2.2.2.2.2.2.2.2.2.1 e0.2.2.2.2.2.2.2.2.2.2.2.2.2.2.2.2.1 e0.2.2.2.2.2.2.2.2.2.2.2.2.2.2.2.2.2.1 e0.2.2.2.2.2.2.2.2.2.2.2.2.2.2.2.2.2.2.1 e0.2.2.2.2.2.2.2.2.2.2.2.2.2.2.2.2.2.2.2.1 e0.2.2.2.2.2.2.2.2.2.2.2.2.2.2.2.2.2.2.2.2.1 e0.2.2.2.2.2.2.2.2.2.2.2.2.2.2.2.2.2.2.2.2.2.1 e0.2.2.2.2.2.2.2.2.2.2.2.2.2.2.2.2.2.2.2.2.2.2.1 e0.2.2.2.2.2.2.2.2.2.2.2.2.2.2.2.2.2.2.2.2.2.2.2.1 e0.2.2.2.2.2.2.2.2.2.2.2.2.2.2.2.2.2.2.2.2.2.2.2.2.1 e0.2.2.2.2.2.2.2.2.2.2.2.2.2.2.2.2.2.2.2.2.2.2.2.2.2
noncomputable def q : Par := pick ne Goal
@[irreducible] noncomputable def w : World := q.1
@[irreducible] noncomputable def ws : List Nat := q.2.1
@[irreducible] noncomputable def tx0 : Tok := q.2.2.1
@[irreducible] noncomputable def news : Led := q.2.2.2.1
@[irreducible] noncomputable def p : Program := q.2.2.2.2.1
@[irreducible] noncomputable def loose : List PySem.Str := q.2.2.2.2.2.1
@[irreducible] noncomputable def mean : ExcName → Option Value := q.2.2.2.2.2.2.1
@[irreducible] noncomputable def mg : PySem.Str → Option Value := q.2.2.2.2.2.2.2.1
@[irreducible] noncomputable def mb : PySem.Str → Option Value := q.2.2.2.2.2.2.2.2.1
@[irreducible] noncomputable def dp : Nat := q.2.2.2.2.2.2.2.2.2.1
@[irreducible] noncomputable def un : Nat := q.2.2.2.2.2.2.2.2.2.2.1
@[irreducible] noncomputable def gd : Option (List Code) := q.2.2.2.2.2.2.2.2.2.2.2.1
@[irreducible] noncomputable def cn : PySem.Str := q.2.2.2.2.2.2.2.2.2.2.2.2.1
@[irreducible] noncomputable def cs : Scope := q.2.2.2.2.2.2.2.2.2.2.2.2.2.1
@[irreducible] noncomputable def a : Addr := q.2.2.2.2.2.2.2.2.2.2.2.2.2.2.1
@[irreducible] noncomputable def ccd : Value := q.2.2.2.2.2.2.2.2.2.2.2.2.2.2.2.1
@[irreducible] noncomputable def cl : List (PySem.Str × Addr) := q.2.2.2.2.2.2.2.2.2.2.2.2.2.2.2.2.1
@[irreducible] noncomputable def outer : List Env := q.2.2.2.2.2.2.2.2.2.2.2.2.2.2.2.2.2.1
@[irreducible] noncomputable def A₀ : Around := q.2.2.2.2.2.2.2.2.2.2.2.2.2.2.2.2.2.2.1
@[irreducible] noncomputable def base : Heap := q.2.2.2.2.2.2.2.2.2.2.2.2.2.2.2.2.2.2.2.1
@[irreducible] noncomputable def h₀ : Heap := q.2.2.2.2.2.2.2.2.2.2.2.2.2.2.2.2.2.2.2.2.1
@[irreducible] noncomputable def L : Addr := q.2.2.2.2.2.2.2.2.2.2.2.2.2.2.2.2.2.2.2.2.2.1
@[irreducible] noncomputable def m : PySem.Str → Option Value := q.2.2.2.2.2.2.2.2.2.2.2.2.2.2.2.2.2.2.2.2.2.2.1
@[irreducible] noncomputable def s : Shared := q.2.2.2.2.2.2.2.2.2.2.2.2.2.2.2.2.2.2.2.2.2.2.2.1
@[irreducible] noncomputable def Q : Value → Shared → Prop := q.2.2.2.2.2.2.2.2.2.2.2.2.2.2.2.2.2.2.2.2.2.2.2.2.1
@[irreducible] noncomputable def E : Value → Shared → Prop := q.2.2.2.2.2.2.2.2.2.2.2.2.2.2.2.2.2.2.2.2.2.2.2.2.2
noncomputable def BH (g₉ : Heap) (l₉ : Addr) (h₉ : Heap) (t₉ : Nat) : Prop := BodyH w 114 113 19 [(PySem.Str.ofString "text", .str (tx (readL ws)) tx0)] news p loose mean mg mb dp un gd cn cs a ccd cl outer base h₀ L m s Q E (rfl : stm 19 = _) g₉ l₉ h₉ t₉
noncomputable def ev : EV := pick evne (fun e => BH e.g e.l e.h e.t)
@[irreducible] noncomputable def g' : Heap := ev.g
@[irreducible] noncomputable def L' : Addr := ev.l
@[irreducible] noncomputable def h' : Heap := ev.h
@[irreducible] noncomputable def tk' : Nat := ev.t
theorem body (hx : ws.length ≤ 30) (hs : ∀ c ∈ ws, c ∈ signs17) (B : Below A₀ base outer h₀) (X : (K0 w.params).In h₀) (T : Top p loose mean mg mb h₀) (C1 : CodeHd h₀ 61 57) (C2 : CodeHd h₀ 170 168) (hk : cs.kind = .function) (hd : dp < 960) (hu : un < 8 * 960) (hret : ∀ r news' h' tk', Fr h₀ L h' m → News h₀ L h' news' → ((ReadQ ws news)) r news' → Q r { s with heap := h', toks := tk' }) : BH g' L' h' tk' := by
  have yc : Clo := .mk
  w_on
  intro F' N' B' X' T' C1' C2' lt'
  (try dsimp only)
  have hb := bodyL_len ws
  have hlen : (tx (readL ws)).length = (bodyL ws).length + 9 := by rw [tx_length, readL_eq]; simp
  have hsl1 : Txt.slice (tx (readL ws)) none (some 4) = PySem.Str.ofString "(?s:" := slice_to (mid := [40, 63, 115, 58]) (readL_eq ws) rfl
  have hsl2 : Txt.slice (tx (readL ws)) (some (((tx (readL ws)).length : Nat) - 3 : Int)) none = PySem.Str.ofString ")\\Z" := slice_from (pre := [40, 63, 115, 58] ++ (bodyL ws ++ [46, 42])) (mid := [41, 92, 90]) (by rw [readL_eq]; simp) (by rw [hlen]; simp; omega)
  k_steps
  rename News _ _ _ _ => NW
  rename Fr _ _ _ _ => FW
  rename_i l _ l1 _ _ _ _ _ _ _ _ _
  refine Stop.go (while_k [PySem.Str.ofString "at", PySem.Str.ofString "barred", PySem.Str.ofString "signs"] (fun kk m' n' => RA ws l news kk m' n' ∨ RB ws l news kk m' n') (ws.length + 1) ((l, W.listOf #[] 0) :: news) FW NW Sub.refl
    (.inl ⟨[], ws, [], [], 0, rfl, rfl, .of rfl rfl, .nil, (fun _ h => nomatch h), rfl⟩) (by k_extra "own") ?_)
  refine cl6 ?_; generalize cl6_1 _ _ = kk, cl6_2 _ _ = m1, cl6_3 _ _ = n1, cl6_4 _ _ = h1, cl6_5 _ _ = tk1, cl6_6 _ _ = Q2
  rintro (hT | hT) F1 N1 hQ2
  · obtain ⟨dn, td0, vs, tl, cap, e1, e2, zz1, e5, e6, e4⟩ := hT
    revert dn td0 vs tl cap e1 e2 zz1 e5 e6 e4
    intro dn td0 vs tl cap e1 e2 zz1 e5 e6 e4
    obtain ⟨ti, e3⟩ := zz1
    revert ti e3
    intro ti e3
    clear FW NW
    subst e4
    dsimp only [mapK] at F1
    rw [e3] at F1
    dsimp only
    have hoff : ∀ p ∈ tl ++ news, p.1 ≠ l := by
      intro p hp
      rcases List.mem_append.mp hp with hp | hp
      · exact Nat.ne_of_gt (e6 p hp)
      · exact Nat.ne_of_lt (l1 p hp)
    have hle : (bodyL dn).length ≤ (bodyL ws).length := by rw [e1]; simp [bodyL]
    have hlt : decide (((4 + (bodyL dn).length : Nat) : Int) < ((tx (readL ws)).length : Nat) - 3) = true := by rw [hlen]; simp; omega
    k_steps
    refine ⟨fun _ => ?_, (fun h => by rw [hlt] at h; cases h)⟩
    have hpre : ([40, 63, 115, 58] ++ bodyL dn).length = 4 + (bodyL dn).length := by simp; omega
    have hT : readL ws = ([40, 63, 115, 58] ++ bodyL dn) ++ (bodyL td0 ++ [46, 42, 41, 92, 90]) := by rw [readL_eq, e1]; simp [bodyL]
    have hTl : (readL ws).length ≤ 100000 := by rw [readL_eq]; simp; omega
    have hvl : vs.length = dn.length := e5.length.symm
    have hdl : dn.length ≤ 30 := by have := congrArg List.length e1; simp at this; omega
    have hsz : vs.toArray.size ≤ 100000 := by rw [List.size_toArray]; omega
    generalize hn0 : 4 + (bodyL dn).length = n0 at *
    by_cases htd : td0 = []
    · subst htd
      have hsl3 : Txt.slice (tx (readL ws)) (some (n0 : Int)) (some ((n0 : Int) + 2)) = PySem.Str.ofString ".*" := slice_of (pre := [40, 63, 115, 58] ++ bodyL dn) (mid := [46, 42]) (post := [41, 92, 90]) (by rw [hT]; simp [bodyL]) (by rw [hpre]) (by rw [hpre]; simp)
      k_steps
      refine AgainW.next (by assumption) (by assumption) (k' := 0) (by rw [e2]; exact Nat.succ_pos _) (fun _ h => h) ⟨by k_extra "kept", .inr ⟨vs, tl, ?cap1, rfl, .of rfl ?a1, ?b1, e6, ?c1⟩⟩
      case c1 => (rw [List.push_toArray])
      case a1 =>
        have : ws = dn := by simpa using e1
        rw [this]; omega
      case b1 =>
        have : ws = dn := by simpa using e1
        rw [this]; exact e5
    · obtain ⟨c, td, hcd⟩ := List.exists_cons_of_ne_nil htd
      revert c td hcd
      intro c td hcd
      subst hcd
      have hc : c ∈ signs17 := hs c (by rw [e1]; simp)
      obtain ⟨h9, t9, hh9⟩ : ∃ h t, bodyL td ++ [46, 42, 41, 92, 90] = h :: t := by
        cases hq : bodyL td with
        | nil => exact ⟨_, _, rfl⟩
        | cons a r => exact ⟨_, _, rfl⟩
      revert h9 t9 hh9
      intro h9 t9 hh9
      have hT2 : readL ws = ([40, 63, 115, 58] ++ bodyL dn) ++ (pieceL c ++ (h9 :: t9)) := by rw [hT, ← hh9]; simp [bodyL]
      have hbl : (bodyL (dn ++ [c])).length = (bodyL dn).length + (pieceL c).length := by simp [bodyL]
      rcases kinds c hc with ⟨hk, hp⟩ | ⟨hk, hp⟩ | ⟨hk, hp⟩ | hp
      · have hsl3 : Txt.slice (tx (readL ws)) (some (n0 : Int)) (some ((n0 : Int) + 2)) = tx [c, h9] := slice_of (pre := [40, 63, 115, 58] ++ bodyL dn) (mid := [c, h9]) (post := t9) (by rw [hT2, hp]; simp) (by rw [hpre]) (by rw [hpre]; simp)
        have hne : (tx [c, h9] == PySem.Str.ofString ".*") = false := tx_ne (b := [46, 42]) (by intro e; have := (List.cons.inj e).1; omega)
        have h0 : At (tx (readL ws)) (n0 : Int) c := At.of' (pre := [40, 63, 115, 58] ++ bodyL dn) (post := h9 :: t9) (by rw [hT2, hp]; simp) hTl (by rw [hpre])
        have m1 : (({ cps := #[c] } : PySem.Str) == PySem.Str.ofString ".") = false := by rcases hk with rfl | rfl | rfl <;> decide +kernel
        have m2 : (({ cps := #[c] } : PySem.Str) == PySem.Str.ofString "\\") = false := by rcases hk with rfl | rfl | rfl <;> decide +kernel
        have m3 : (({ cps := #[c] } : PySem.Str) == PySem.Str.ofString "[") = false := by rcases hk with rfl | rfl | rfl <;> decide +kernel
        have m4 : (Builtin.Str.occurrences (PySem.Str.ofString "()*+?{}|^$") ({ cps := #[c] } : PySem.Str) 0 (PySem.Str.ofString "()*+?{}|^$").length 1).isEmpty = true := by rcases hk with rfl | rfl | rfl <;> decide +kernel
        · k_steps
          rename News _ _ _ _ => NL
          refine AgainW.next (by assumption) (News.swap NL) (k' := td.length + 1) (by rw [e2]; simp) (fun _ h => h) ⟨by k_extra "kept", .inl ⟨dn ++ [_], td, vs ++ [?v21], ?p21 :: tl, ?cap21, e1.trans (List.append_cons dn _ td), rfl, .of rfl ?a21, ?b21, ?d21, ?c21⟩⟩
          case c21 => (rw [List.push_toArray]; rfl)
          case b21 => exact (e5.mono fun _ _ h => h.cons).snoc ⟨_, _, rfl, List.mem_cons_self⟩
          case d21 => exact List.forall_mem_cons.mpr ⟨(‹l < _ ∧ AllLt _ _›).1, e6⟩
          case a21 => (rw [hbl, hp]; simp; omega)
      · have hsl3 : Txt.slice (tx (readL ws)) (some (n0 : Int)) (some ((n0 : Int) + 2)) = tx [91, c] := slice_of (pre := [40, 63, 115, 58] ++ bodyL dn) (mid := [91, c]) (post := 93 :: h9 :: t9) (by rw [hT2, hp]; simp) (by rw [hpre]) (by rw [hpre]; simp)
        have hne : (tx [91, c] == PySem.Str.ofString ".*") = false := tx_ne (b := [46, 42]) (by intro e; have := (List.cons.inj e).1; omega)
        have h0 : At (tx (readL ws)) (n0 : Int) 91 := At.of' (pre := [40, 63, 115, 58] ++ bodyL dn) (post := c :: 93 :: h9 :: t9) (by rw [hT2, hp]; simp) hTl (by rw [hpre])
        have h1 : At (tx (readL ws)) ((n0 : Int) + 1) c := At.of' (pre := [40, 63, 115, 58] ++ bodyL dn ++ [91]) (post := 93 :: h9 :: t9) (by rw [hT2, hp]; simp) hTl (by rw [List.length_append, hpre]; simp)
        have h2 : At (tx (readL ws)) ((n0 : Int) + 1 + 1) 93 := At.of' (pre := [40, 63, 115, 58] ++ bodyL dn ++ [91, c]) (post := h9 :: t9) (by rw [hT2, hp]; simp) hTl (by rw [List.length_append, hpre]; simp; omega)
        rcases hk with rfl | rfl
        · k_steps
          refine Stop.go (whl_start 4 ?_)
          k_steps
          rename News _ _ _ _ => NL
          refine AgainW.next (by assumption) (News.swap NL) (k' := td.length + 1) (by rw [e2]; simp) (fun _ h => h) ⟨by k_extra "kept", .inl ⟨dn ++ [_], td, vs ++ [?v31], ?p31 :: tl, ?cap31, e1.trans (List.append_cons dn _ td), rfl, .of rfl ?a31, ?b31, ?d31, ?c31⟩⟩
          case c31 => (rw [List.push_toArray]; rfl)
          case b31 => exact (e5.mono fun _ _ h => h.cons).snoc ⟨_, _, rfl, List.mem_cons_self⟩
          case d31 => exact List.forall_mem_cons.mpr ⟨(‹l < _ ∧ AllLt _ _›).1, e6⟩
          case a31 => (rw [hbl, hp]; simp; omega)
        · k_steps
          refine Stop.go (whl_start 4 ?_)
          k_steps
          rename News _ _ _ _ => NL
          refine AgainW.next (by assumption) (News.swap NL) (k' := td.length + 1) (by rw [e2]; simp) (fun _ h => h) ⟨by k_extra "kept", .inl ⟨dn ++ [_], td, vs ++ [?v32], ?p32 :: tl, ?cap32, e1.trans (List.append_cons dn _ td), rfl, .of rfl ?a32, ?b32, ?d32, ?c32⟩⟩
          case c32 => (rw [List.push_toArray]; rfl)
          case b32 => exact (e5.mono fun _ _ h => h.cons).snoc ⟨_, _, rfl, List.mem_cons_self⟩
          case d32 => exact List.forall_mem_cons.mpr ⟨(‹l < _ ∧ AllLt _ _›).1, e6⟩
          case a32 => (rw [hbl, hp]; simp; omega)
      · subst hk
        have hsl3 : Txt.slice (tx (readL ws)) (some (n0 : Int)) (some ((n0 : Int) + 2)) = tx [91, 92] := slice_of (pre := [40, 63, 115, 58] ++ bodyL dn) (mid := [91, 92]) (post := 91 :: 93 :: h9 :: t9) (by rw [hT2, hp]; simp) (by rw [hpre]) (by rw [hpre]; simp)
        have hne : (tx [91, 92] == PySem.Str.ofString ".*") = false := tx_ne (b := [46, 42]) (by decide)
        have h0 : At (tx (readL ws)) (n0 : Int) 91 := At.of' (pre := [40, 63, 115, 58] ++ bodyL dn) (post := 92 :: 91 :: 93 :: h9 :: t9) (by rw [hT2, hp]; simp) hTl (by rw [hpre])
        have h1 : At (tx (readL ws)) ((n0 : Int) + 1) 92 := At.of' (pre := [40, 63, 115, 58] ++ bodyL dn ++ [91]) (post := 91 :: 93 :: h9 :: t9) (by rw [hT2, hp]; simp) hTl (by rw [List.length_append, hpre]; simp)
        have h2 : At (tx (readL ws)) ((n0 : Int) + 1 + 1) 91 := At.of' (pre := [40, 63, 115, 58] ++ bodyL dn ++ [91, 92]) (post := 93 :: h9 :: t9) (by rw [hT2, hp]; simp) hTl (by rw [List.length_append, hpre]; simp; omega)
        have h3 : At (tx (readL ws)) ((n0 : Int) + 1 + 1 + 1) 93 := At.of' (pre := [40, 63, 115, 58] ++ bodyL dn ++ [91, 92, 91]) (post := h9 :: t9) (by rw [hT2, hp]; simp) hTl (by rw [List.length_append, hpre]; simp; omega)
        · k_steps
          refine Stop.go (whl_start 4 ?_)
          k_steps
          rename News _ _ _ _ => NL
          refine AgainW.next (by assumption) (News.swap NL) (k' := td.length + 1) (by rw [e2]; simp) (fun _ h => h) ⟨by k_extra "kept", .inl ⟨dn ++ [_], td, vs ++ [?v33], ?p33 :: tl, ?cap33, e1.trans (List.append_cons dn _ td), rfl, .of rfl ?a33, ?b33, ?d33, ?c33⟩⟩
          case c33 => (rw [List.push_toArray]; rfl)
          case b33 => exact (e5.mono fun _ _ h => h.cons).snoc ⟨_, _, rfl, List.mem_cons_self⟩
          case d33 => exact List.forall_mem_cons.mpr ⟨(‹l < _ ∧ AllLt _ _›).1, e6⟩
          case a33 => (rw [hbl, hp]; simp; omega)
      · have hsl3 : Txt.slice (tx (readL ws)) (some (n0 : Int)) (some ((n0 : Int) + 2)) = tx [92, c] := slice_of (pre := [40, 63, 115, 58] ++ bodyL dn) (mid := [92, c]) (post := h9 :: t9) (by rw [hT2, hp]) (by rw [hpre]) (by rw [hpre]; simp)
        have hne : (tx [92, c] == PySem.Str.ofString ".*") = false := tx_ne (b := [46, 42]) (by intro e; have := (List.cons.inj e).1; omega)
        have h0 : At (tx (readL ws)) (n0 : Int) 92 := At.of' (pre := [40, 63, 115, 58] ++ bodyL dn) (post := c :: h9 :: t9) (by rw [hT2, hp]; simp) hTl (by rw [hpre])
        have h1 : At (tx (readL ws)) ((n0 : Int) + 1) c := At.of' (pre := [40, 63, 115, 58] ++ bodyL dn ++ [92]) (post := h9 :: t9) (by rw [hT2, hp]; simp) hTl (by rw [List.length_append, hpre]; simp)
        k_steps
        rename News _ _ _ _ => NL
        refine AgainW.next (by assumption) (News.swap NL) (k' := td.length + 1) (by rw [e2]; simp) (fun _ h => h) ⟨by k_extra "kept", .inl ⟨dn ++ [_], td, vs ++ [?v24], ?p24 :: tl, ?cap24, e1.trans (List.append_cons dn _ td), rfl, .of rfl ?a24, ?b24, ?d24, ?c24⟩⟩
        case c24 => (rw [List.push_toArray]; rfl)
        case b24 => exact (e5.mono fun _ _ h => h.cons).snoc ⟨_, _, rfl, List.mem_cons_self⟩
        case d24 => exact List.forall_mem_cons.mpr ⟨(‹l < _ ∧ AllLt _ _›).1, e6⟩
        case a24 => (rw [hbl, hp]; simp; omega)
  · obtain ⟨vs, tl, cap, e2, zz2, e5, e6, e4⟩ := hT
    revert vs tl cap e2 zz2 e5 e6 e4
    intro vs tl cap e2 zz2 e5 e6 e4
    obtain ⟨ti, e3⟩ := zz2
    revert ti e3
    intro ti e3
    clear FW NW
    subst e4
    dsimp only [mapK] at F1
    rw [e3] at F1
    dsimp only
    have hlt : decide (((4 + (bodyL ws).length + 2 : Nat) : Int) < ((tx (readL ws)).length : Nat) - 3) = false := by rw [hlen]; simp; omega
    k_steps
    refine ⟨(fun h => by rw [hlt] at h; cases h), fun _ => ?_⟩
    k_steps
    exact hret _ _ _ _ (by assumption) (by assumption) ⟨l, vs, tl, cap, rfl, e5, rfl, l1, e6⟩
theorem main (hx : ws.length ≤ 30) (hs : ∀ c ∈ ws, c ∈ signs17) : FnG w 960 114 [.str (tx (readL ws)) tx0] news (ReadQ ws news) p loose mean mg mb dp un gd cn cs a ccd cl outer A₀ base h₀ L m s Q E := by
  intro B F X N T C1 C2 hk hd hu hret
  refine wpAny_call ?_
  with_unfolding_all refine' code_my (binds := [(PySem.Str.ofString "text", .str (tx (readL ws)) tx0)]) B F X N T C1 C2 ?kA ?kF ?kK ?ko ?est ?kcd ?kroom ?kbind ?kloc (fun g₁ l₁ h₁ t₁ _ => pick_all evne (P := fun e => BH e.g e.l e.h e.t) ?bd ⟨g₁, l₁, h₁, t₁⟩) ?kco ?kgen ?kkind ?kcell
  (case kA => exact rfl)
  (case kF => exact rfl)
  (case kK => exact hk)
  (case ko => k_is)
  (case est => exact rfl)
  (case kcd => k_is)
  (case kroom => (show dp < 1000; omega))
  (case kbind => exact BindsTo.of_eq rfl)
  (case kloc => exact locs rfl)
  (case kco => exact rfl)
  (case kgen => exact rfl)
  (case kkind => exact rfl)
  (case kcell => decide)
  (case bd => with_unfolding_all exact body hx hs B X T C1 C2 hk hd hu hret)
theorem goal_q : Goal q := by with_unfolding_all exact main
end Kread
theorem read (w : World) (ws : List Nat) (tx0 : Tok) (news : Led) (hx : ws.length ≤ 30) (hs : ∀ c ∈ ws, c ∈ signs17) :
    Fn w 960 114 [.str (tx (readL ws)) tx0] news (ReadQ ws news) := by
  exact fun p loose mean mg mb dp un gd cn cs a ccd cl outer A₀ base h₀ L m s Q E => pick_all Kread.ne (P := Kread.Goal) Kread.goal_q ⟨w, ws, tx0, news, p, loose, mean, mg, mb, dp, un, gd, cn, cs, a, ccd, cl, outer, A₀, base, h₀, L, m, s, Q, E⟩ hx hs
end S_FRd
section S_Zp
structure Zap (z TI TO i1 i2 : Addr) (f1 f2 : List Addr) : Prop where
  TIz : TI ≠ z
  TOz : TO ≠ z
  TITO : TI ≠ TO
  TIi1 : TI ≠ i1
  TIi2 : TI ≠ i2
  TOi1 : TO ≠ i1
  TOi2 : TO ≠ i2
  i1z : i1 ≠ z
  i2z : i2 ≠ z
  i12 : i1 ≠ i2
  zf1 : z ∉ f1
  zf2 : z ∉ f2
  Tf1 : TO ∉ f1
  Tf2 : TO ∉ f2
  if1 : i2 ∉ f1
  if2 : i1 ∉ f2
theorem notin_ne {a : Addr} {f : List Addr} (h : a ∉ f) : ∀ b ∈ f, b ≠ a := fun b hb e => h (e ▸ hb)
section
variable {prog : Program} {w : World} {A : Around} {E : Value → Shared → Prop} {s : Shared} {z TI TO i1 i2 : Addr} {f1 f2 : List Addr} {n1 n2 i : Nat} {P1 P2 : Nat → Value → Prop} {S1 S2 : Nat → Heap → Prop}
theorem zipD_item {a b : Value} {Q : Value → Shared → Prop} (D1 : Draws prog w A i1 f1 n1 P1 S1) (D2 : Draws prog w A i2 f2 n2 P2 S2) (Z : Zap z TI TO i1 i2 f1 f2)
    (hz : IsZip s.heap z TI TO .none) (hTI : IsPair s.heap TI (.ref i1) (.ref i2)) (hTO : IsPair s.heap TO a b) (h1 : S1 i s.heap) (h2 : S2 i s.heap) (hi1 : i < n1) (hi2 : i < n2)
    (hQ : ∀ x y h' tk, P1 i x → P2 i y → IsZip h' z TI TO (rawInt s.heap.objs.size) → IsPair h' TO x y → S1 (i + 1) h' → S2 (i + 1) h' → IsPair h' s.heap.objs.size x y →
      (∀ c o, c ≠ z → c ≠ TO → c ≠ i1 → c ≠ i2 → s.heap.get? c = some o → h'.get? c = some o) → Q (.ref s.heap.objs.size) { s with heap := h', toks := tk }) :
    wpAny (model prog w) A (Builtin.«zip.__next__» ⟨[.ref z], []⟩) (fun fin s' => ∃ v, fin = .done (.ret v) ∧ Q v s') E s := by
  have l1 := D1.live _ _ h1
  have l2 := D2.live _ _ h2
  show wpAny _ _ (field (.ref z) 2 >>= _) _ _ _
  refine wpAny_bind (wpAny_field hz rfl (x := .bool false) rfl ?_)
  show wpAny _ _ (field (.ref z) 3 >>= _) _ _ _
  refine wpAny_bind (wpAny_field hz rfl (x := .ref TI) rfl ?_)
  refine wpAny_bind (wpAny_seqItems hTI rfl ?_)
  show wpAny _ _ (Builtin.SmallTypes.ownedTupleIsFree (.ref z) >>= _) _ _ _
  refine wpAny_bind ?_
  unfold Builtin.SmallTypes.ownedTupleIsFree
  refine wpAny_bind (wpAny_field hz rfl (x := .none) rfl (wpAny_pure ?_))
  simp only [if_true]
  refine wpAny_bind (wpAny_rule ?_)
  refine wpAny_bind (wpAny_field hz rfl (x := .ref TO) rfl ?_)
  refine wpAny_bind (wpAny_setField_rec hz (by simp) fun g₁ hz₁ k₁ => ?_)
  replace hz₁ : IsZip g₁ z TI TO .ellipsis := hz₁
  refine wpAny_bind ?_
  simp only [List.zipIdx_cons, List.zipIdx_nil, List.forIn_cons, List.forIn_nil]
  refine wpAny_bind (wpAny_bind (wpAny_onRaise ?_))
  have h1₁ : S1 i g₁ := D1.frame _ _ _ h1 fun c hc o e => k₁.extBut c o (notin_ne Z.zf1 c hc) e
  have h2₁ : S2 i g₁ := D2.frame _ _ _ h2 fun c hc o e => k₁.extBut c o (notin_ne Z.zf2 c hc) e
  have hTO₁ : IsPair g₁ TO a b := k₁.extBut _ _ Z.TOz hTO
  show wpAny _ _ (Builtin.SmallTypes.nextOf (.ref i1) >>= _) _ _ _
  refine wpAny_bind (D1.item i { s with heap := g₁ } _ _ hi1 h1₁ fun x g₂ t₂ p1 h1₂ k₂ => wpAny_pure ?_)
  have hTO₂ : IsPair g₂ TO a b := k₂.extBut _ _ Z.TOi1 hTO₁
  have h2₂ : S2 i g₂ := D2.frame _ _ _ h2₁ fun c hc o e => k₂.extBut c o (notin_ne Z.if2 c hc) e
  have hz₂ : IsZip g₂ z TI TO .ellipsis := k₂.extBut _ _ Z.i1z.symm hz₁
  refine wpAny_bind (wpAny_seqItems hTO₂ rfl ?_)
  refine wpAny_bind (wpAny_updateSeq_pair hTO₂ fun g₃ hTO₃ k₃ => ?_)
  replace hTO₃ : IsPair g₃ TO x b := hTO₃
  have h1₃ : S1 (i + 1) g₃ := D1.frame _ _ _ h1₂ fun c hc o e => k₃.extBut c o (notin_ne Z.Tf1 c hc) e
  have h2₃ : S2 i g₃ := D2.frame _ _ _ h2₂ fun c hc o e => k₃.extBut c o (notin_ne Z.Tf2 c hc) e
  have hz₃ : IsZip g₃ z TI TO .ellipsis := k₃.extBut _ _ Z.TOz.symm hz₂
  refine wpAny_bind (wpAny_letGo (wpAny_pure ?_))
  refine wpAny_bind (wpAny_bind (wpAny_onRaise ?_))
  show wpAny _ _ (Builtin.SmallTypes.nextOf (.ref i2) >>= _) _ _ _
  refine wpAny_bind (D2.item i { s with heap := g₃, toks := t₂ } _ _ hi2 h2₃ fun y g₄ t₄ p2 h2₄ k₄ => wpAny_pure ?_)
  have hTO₄ : IsPair g₄ TO x b := k₄.extBut _ _ Z.TOi2 hTO₃
  have h1₄ : S1 (i + 1) g₄ := D1.frame _ _ _ h1₃ fun c hc o e => k₄.extBut c o (notin_ne Z.if1 c hc) e
  have hz₄ : IsZip g₄ z TI TO .ellipsis := k₄.extBut _ _ Z.i2z.symm hz₃
  refine wpAny_bind (wpAny_seqItems hTO₄ rfl ?_)
  refine wpAny_bind (wpAny_updateSeq_pair hTO₄ fun g₅ hTO₅ k₅ => ?_)
  replace hTO₅ : IsPair g₅ TO x y := hTO₅
  have h1₅ : S1 (i + 1) g₅ := D1.frame _ _ _ h1₄ fun c hc o e => k₅.extBut c o (notin_ne Z.Tf1 c hc) e
  have h2₅ : S2 (i + 1) g₅ := D2.frame _ _ _ h2₄ fun c hc o e => k₅.extBut c o (notin_ne Z.Tf2 c hc) e
  have hz₅ : IsZip g₅ z TI TO .ellipsis := k₅.extBut _ _ Z.TOz.symm hz₄
  refine wpAny_bind (wpAny_letGo (wpAny_pure (wpAny_pure ?_)))
  refine wpAny_bind (wpAny_seqItems hTO₅ rfl ?_)
  refine wpAny_bind (wpAny_newTuple ?_)
  have hsz : g₅.objs.size = s.heap.objs.size := by rw [k₅.1, k₄.1, k₃.1, k₂.1, k₁.1]
  have all₅ : ∀ c o, c ≠ z → c ≠ TO → c ≠ i1 → c ≠ i2 → s.heap.get? c = some o → g₅.get? c = some o := fun c o c1 c2 c3 c4 e =>
    k₅.extBut _ _ c2 (k₄.extBut _ _ c4 (k₃.extBut _ _ c2 (k₂.extBut _ _ c3 (k₁.extBut _ _ c1 e))))
  show wpAny _ _ (Builtin.SmallTypes.ownedTupleHandOut (.ref z) (.ref g₅.objs.size) >>= _) _ _ _
  refine wpAny_bind ?_
  unfold Builtin.SmallTypes.ownedTupleHandOut
  have hz₆ : IsZip (g₅.push { cls := .type "tuple", data := .seq #[x, y] }) z TI TO .ellipsis := Heap.get?_push_of_some _ hz₅
  refine wpAny_bind (wpAny_setField_rec hz₆ (by simp) fun g₇ hz₇ k₇ => ?_)
  replace hz₇ : IsZip g₇ z TI TO (rawInt g₅.objs.size) := hz₇
  refine wpAny_setField_rec hz₇ (by simp) fun g₈ hz₈ k₈ => ?_
  replace hz₈ : IsZip g₈ z TI TO (rawInt g₅.objs.size) := hz₈
  have up : ∀ c o, c ≠ z → g₅.get? c = some o → g₈.get? c = some o := fun c o c1 e => k₈.extBut _ _ c1 (k₇.extBut _ _ c1 (Heap.get?_push_of_some _ e))
  have hzlt : z < g₅.objs.size := Heap.lt_size hz₅
  have hT₈ : IsPair g₈ g₅.objs.size x y := k₈.extBut _ _ (Nat.ne_of_gt hzlt) (k₇.extBut _ _ (Nat.ne_of_gt hzlt) (Heap.get?_push_size _ rfl))
  rw [hsz] at hz₈ hT₈
  refine wpAny_pure ⟨_, rfl, ?_⟩
  show Q (.ref g₅.objs.size) _
  rw [hsz]
  exact hQ x y g₈ t₄ p1 p2 hz₈ (up _ _ Z.TOz hTO₅) (D1.frame _ _ _ h1₅ fun c hc o e => up c o (notin_ne Z.zf1 c hc) e) (D2.frame _ _ _ h2₅ fun c hc o e => up c o (notin_ne Z.zf2 c hc) e) hT₈
    fun c o c1 c2 c3 c4 e => up c o c1 (all₅ c o c1 c2 c3 c4 e)
theorem zipD_end {a b : Value} {Q : Fin → Shared → Prop} (D1 : Draws prog w A i1 f1 n1 P1 S1) (D2 : Draws prog w A i2 f2 n2 P2 S2) (Z : Zap z TI TO i1 i2 f1 f2)
    (hz : IsZip s.heap z TI TO .none) (hTI : IsPair s.heap TI (.ref i1) (.ref i2)) (hTO : IsPair s.heap TO a b) (h1 : S1 i s.heap) (h2 : S2 i s.heap) (hend : i = n1 ∨ (i < n1 ∧ i = n2))
    (hE : ∀ h' e tk, (∀ c o, c ≠ z → c ≠ TO → c ≠ i1 → c ≠ i2 → s.heap.get? c = some o → h'.get? c = some o) → (∃ o, h'.get? e = some o ∧ o.cls = .type "StopIteration") → E (.ref e) { s with heap := h', toks := tk }) :
    wpAny (model prog w) A (Builtin.«zip.__next__» ⟨[.ref z], []⟩) Q E s := by
  show wpAny _ _ (field (.ref z) 2 >>= _) _ _ _
  refine wpAny_bind (wpAny_field hz rfl (x := .bool false) rfl ?_)
  show wpAny _ _ (field (.ref z) 3 >>= _) _ _ _
  refine wpAny_bind (wpAny_field hz rfl (x := .ref TI) rfl ?_)
  refine wpAny_bind (wpAny_seqItems hTI rfl ?_)
  show wpAny _ _ (Builtin.SmallTypes.ownedTupleIsFree (.ref z) >>= _) _ _ _
  refine wpAny_bind ?_
  unfold Builtin.SmallTypes.ownedTupleIsFree
  refine wpAny_bind (wpAny_field hz rfl (x := .none) rfl (wpAny_pure ?_))
  simp only [if_true]
  refine wpAny_bind (wpAny_rule ?_)
  refine wpAny_bind (wpAny_field hz rfl (x := .ref TO) rfl ?_)
  refine wpAny_bind (wpAny_setField_rec hz (by simp) fun g₁ hz₁ k₁ => ?_)
  replace hz₁ : IsZip g₁ z TI TO .ellipsis := hz₁
  refine wpAny_bind ?_
  simp only [List.zipIdx_cons, List.zipIdx_nil, List.forIn_cons, List.forIn_nil]
  refine wpAny_bind (wpAny_bind (wpAny_onRaise ?_))
  have h1₁ : S1 i g₁ := D1.frame _ _ _ h1 fun c hc o e => k₁.extBut c o (notin_ne Z.zf1 c hc) e
  have h2₁ : S2 i g₁ := D2.frame _ _ _ h2 fun c hc o e => k₁.extBut c o (notin_ne Z.zf2 c hc) e
  have hTO₁ : IsPair g₁ TO a b := k₁.extBut _ _ Z.TOz hTO
  show wpAny _ _ (Builtin.SmallTypes.nextOf (.ref i1) >>= _) _ _ _
  rcases hend with rfl | ⟨hi1, rfl⟩
  · refine wpAny_bind (D1.done { s with heap := g₁ } _ _ h1₁ fun g₂ e k₂ he => ?_)
    obtain ⟨oe, hoe, hce⟩ := he
    have hz₂ : IsZip g₂ z TI TO .ellipsis := k₂ _ _ Z.i1z.symm hz₁
    have hez : e ≠ z := fun x => by subst x; rw [hz₂] at hoe; cases hoe; simp at hce
    refine wpAny_setField_rec hz₂ (by simp) fun g₃ _ k₃ => hE g₃ e s.toks (fun c o c1 _ c3 _ x => k₃.extBut _ _ c1 (k₂ _ _ c3 (k₁.extBut _ _ c1 x))) ⟨oe, k₃.extBut _ _ hez hoe, hce⟩
  · refine wpAny_bind (D1.item i { s with heap := g₁ } _ _ hi1 h1₁ fun x g₂ t₂ p1 h1₂ k₂ => wpAny_pure ?_)
    have hTO₂ : IsPair g₂ TO a b := k₂.extBut _ _ Z.TOi1 hTO₁
    have h2₂ : S2 i g₂ := D2.frame _ _ _ h2₁ fun c hc o e => k₂.extBut c o (notin_ne Z.if2 c hc) e
    have hz₂ : IsZip g₂ z TI TO .ellipsis := k₂.extBut _ _ Z.i1z.symm hz₁
    refine wpAny_bind (wpAny_seqItems hTO₂ rfl ?_)
    refine wpAny_bind (wpAny_updateSeq_pair hTO₂ fun g₃ hTO₃ k₃ => ?_)
    have h2₃ : S2 i g₃ := D2.frame _ _ _ h2₂ fun c hc o e => k₃.extBut c o (notin_ne Z.Tf2 c hc) e
    have hz₃ : IsZip g₃ z TI TO .ellipsis := k₃.extBut _ _ Z.TOz.symm hz₂
    refine wpAny_bind (wpAny_letGo (wpAny_pure ?_))
    refine wpAny_bind (wpAny_bind (wpAny_onRaise ?_))
    show wpAny _ _ (Builtin.SmallTypes.nextOf (.ref i2) >>= _) _ _ _
    refine wpAny_bind (D2.done { s with heap := g₃, toks := t₂ } _ _ h2₃ fun g₄ e k₄ he => ?_)
    obtain ⟨oe, hoe, hce⟩ := he
    have hz₄ : IsZip g₄ z TI TO .ellipsis := k₄ _ _ Z.i2z.symm hz₃
    have hez : e ≠ z := fun x => by subst x; rw [hz₄] at hoe; cases hoe; simp at hce
    refine wpAny_setField_rec hz₄ (by simp) fun g₅ _ k₅ => hE g₅ e t₂ (fun c o c1 c2 c3 c4 x => k₅.extBut _ _ c1 (k₄ _ _ c4 (k₃.extBut _ _ c2 (k₂.extBut _ _ c3 (k₁.extBut _ _ c1 x))))) ⟨oe, k₅.extBut _ _ hez hoe, hce⟩
end
section
variable {prog : Program} {w : World} {A : Around} {z TI TO i1 i2 : Addr} {f1 f2 : List Addr} {n1 n2 : Nat} {P1 P2 : Nat → Value → Prop} {S1 S2 : Nat → Heap → Prop}
theorem walks_zipD (D1 : Draws prog w A.in1 i1 f1 n1 P1 S1) (D2 : Draws prog w A.in1 i2 f2 n2 P2 S2) (Z : Zap z TI TO i1 i2 f1 f2) (hi1f : i1 ∈ f1) (hi2f : i2 ∈ f2) :
    WalksT prog w A z (z :: TI :: TO :: (f1 ++ f2)) [z, TO, i1, i2] (min n1 n2)
      (fun i vals => ∃ x y, P1 i x ∧ P2 i y ∧ vals = #[x, y])
      (fun i h => IsZip h z TI TO .none ∧ IsPair h TI (.ref i1) (.ref i2) ∧ (∃ a b, IsPair h TO a b) ∧ S1 i h ∧ S2 i h)
      (fun i T h => IsZip h z TI TO (rawInt T) ∧ IsPair h TI (.ref i1) (.ref i2) ∧ (∃ a b, IsPair h TO a b) ∧ S1 (i + 1) h ∧ S2 (i + 1) h ∧ T ≠ z ∧ T ≠ TO ∧ T ≠ i1 ∧ T ≠ i2) where
  sub := fun c hc => by
    simp only [List.mem_cons, List.not_mem_nil, or_false] at hc
    rcases hc with rfl | rfl | rfl | rfl
    · simp
    · simp
    · simp [hi1f]
    · simp [hi2f]
  frame := fun i h h' hst hk => by
    obtain ⟨hz, hTI, ⟨a, b, hTO⟩, h1, h2⟩ := hst
    exact ⟨hk z (by simp) _ hz, hk TI (by simp) _ hTI, ⟨a, b, hk TO (by simp) _ hTO⟩, D1.frame _ _ _ h1 fun c hc => hk c (by simp [hc]), D2.frame _ _ _ h2 fun c hc => hk c (by simp [hc])⟩
  item := fun i s Q E hi hst hQ => by
    obtain ⟨hz, hTI, ⟨a, b, hTO⟩, h1, h2⟩ := hst
    have hi1 : i < n1 := Nat.lt_of_lt_of_le hi (Nat.min_le_left ..)
    have hi2 : i < n2 := Nat.lt_of_lt_of_le hi (Nat.min_le_right ..)
    have lt : ∀ {c o}, s.heap.get? c = some o → s.heap.objs.size ≠ c := fun e => Nat.ne_of_gt (Heap.lt_size e)
    obtain ⟨_, l1⟩ := D1.live _ _ h1
    obtain ⟨_, l2⟩ := D2.live _ _ h2
    have hT : s.TypeIs (.ref z) "zip" := ⟨_, hz, rfl⟩
    unfold pyNext
    refine wpAny_bind (wpAny_attempt (wpAny_callSpecial?_slot (name := PySem.Str.ofString "__next__") hT F.slot_zip_next (wpAny_call_entry F.slot_zip_next hT F.entry_zip_next ?_ (F.args_zip_next_1 _))))
    refine zipD_item D1 D2 Z hz hTI hTO h1 h2 hi1 hi2 fun x y h' tk p1 p2 a1 a2 a3 a4 a5 hk => wpAny_pure ?_
    exact hQ s.heap.objs.size #[x, y] h' tk ⟨x, y, p1, p2, rfl⟩ (Nat.le_refl _) ⟨_, a5, rfl, _, rfl⟩
      ⟨a1, hk _ _ Z.TIz Z.TITO Z.TIi1 Z.TIi2 hTI, ⟨_, _, a2⟩, a3, a4, lt hz, lt hTO, lt l1, lt l2⟩
      fun c o hc e => hk c o (fun x => hc (by simp [x])) (fun x => hc (by simp [x])) (fun x => hc (by simp [x])) (fun x => hc (by simp [x])) e
  go := fun elts k pos i T s Q E hm hQ => by
    obtain ⟨hz, hTI, ⟨a, b, hTO⟩, h1, h2, _⟩ := hm
    refine wpAny_letOwnedTupleGo_zip hz fun h' hz' hs' => hQ h' ⟨hz', hs'.extBut _ _ Z.TIz hTI, ⟨a, b, hs'.extBut _ _ Z.TOz hTO⟩, D1.frame _ _ _ h1 fun c hc o e => hs'.extBut _ _ (notin_ne Z.zf1 c hc) e,
      D2.frame _ _ _ h2 fun c hc o e => hs'.extBut _ _ (notin_ne Z.zf2 c hc) e⟩ fun c o hc e => hs'.extBut _ _ (fun x => hc (by simp [x])) e
  apart := fun i T h hm hT => by
    obtain ⟨_, _, _, _, _, t1, t2, t3, t4⟩ := hm
    simp only [List.mem_cons, List.not_mem_nil, or_false] at hT
    rcases hT with rfl | rfl | rfl | rfl
    · exact t1 rfl
    · exact t2 rfl
    · exact t3 rfl
    · exact t4 rfl
  done := fun s Q E hst hQ => by
    obtain ⟨hz, hTI, ⟨a, b, hTO⟩, h1, h2⟩ := hst
    have hend : min n1 n2 = n1 ∨ (min n1 n2 < n1 ∧ min n1 n2 = n2) := by omega
    have hT : s.TypeIs (.ref z) "zip" := ⟨_, hz, rfl⟩
    unfold pyNext
    refine wpAny_bind (wpAny_attempt (wpAny_callSpecial?_slot (name := PySem.Str.ofString "__next__") hT F.slot_zip_next
      (wpAny_call_entry F.slot_zip_next hT F.entry_zip_next (zipD_end D1 D2 Z hz hTI hTO h1 h2 hend fun h' e tk hk he => ?_) (F.args_zip_next_1 _))))
    obtain ⟨o, ho, hc⟩ := he
    refine wpAny_bind (wpAny_isInstance (T := "StopIteration") (b := true) ⟨o, ho, hc⟩ isSubtype_stop ?_)
    exact wpAny_pure (hQ _ tk fun c o hc e => hk c o (fun x => hc (by simp [x])) (fun x => hc (by simp [x])) (fun x => hc (by simp [x])) (fun x => hc (by simp [x])) e)
  self := fun i s Q E hst hQ => wpAny_pyIter_zip hst.1 hQ
end
noncomputable abbrev zs1 (h : Heap) (l : Addr) : Heap := h.push { cls := .type "list_iterator", data := .fields #[.ref l, .int 0 0] }
noncomputable abbrev zs2 (h : Heap) (l : Addr) (x : PySem.Str) (t : Tok) : Heap := (zs1 h l).push { cls := .type "str_ascii_iterator", data := .fields #[.str x t, .int 0 0] }
noncomputable abbrev zs3 (h : Heap) (l : Addr) (x : PySem.Str) (t : Tok) : Heap := (zs2 h l x t).push { cls := .type "tuple", data := .seq #[.ref h.objs.size, .ref (zs1 h l).objs.size] }
noncomputable abbrev zs4 (h : Heap) (l : Addr) (x : PySem.Str) (t : Tok) : Heap := (zs3 h l x t).push { cls := .type "tuple", data := .seq #[.none, .none] }
noncomputable abbrev zs5 (h : Heap) (l : Addr) (x : PySem.Str) (t : Tok) : Heap := (zs4 h l x t).push { cls := .type "zip", data := .fields #[.none, .bool false, .bool false, .ref (zs2 h l x t).objs.size, .ref (zs3 h l x t).objs.size] }
theorem meets_zipS (l : Addr) (xs : Array Value) (x : PySem.Str) (t : Tok) (ha : x.cps.all (· < 128) = true) :
    Meets (Builtin.«zip.__new__» ⟨[.type "zip", .ref l, .str x t], []⟩) (fun _ R s => s.heap.IsList l xs ∧ R (.ok (.ret (.ref (zs4 s.heap l x t).objs.size))) { s with heap := zs5 s.heap l x t }) :=
  .of_wp fun prog w A R s h => by
    obtain ⟨hp, g, d, tk, os⟩ := s; obtain ⟨hl1, h⟩ := h
    have hsub := sub_zip
    have hL1 : Heap.IsList (Shared.heap ⟨hp, g, d, tk, os⟩) l xs := hl1
    wp_walk using wpAny_pyIter_list hL1, wpAny_pyIter_ascii ha
    exact ⟨_, rfl, h⟩
section
variable {prog : Program} {w : World} {A : Around} {E : Value → Shared → Prop} {s : Shared}
theorem call_zipS {l : Addr} {xs : Array Value} {x : PySem.Str} {t : Tok} {Q : Value → Shared → Prop} (hl : s.heap.IsList l xs) (ha : x.cps.all (· < 128) = true)
    (h : ∀ h', IsZip h' (s.heap.objs.size + 4) (s.heap.objs.size + 2) (s.heap.objs.size + 3) .none → IsPair h' (s.heap.objs.size + 2) (.ref s.heap.objs.size) (.ref (s.heap.objs.size + 1)) →
      IsPair h' (s.heap.objs.size + 3) .none .none → h'.IsListIter s.heap.objs.size l 0 → h'.IsStrIter (s.heap.objs.size + 1) "str_ascii_iterator" x t 0 →
      (∀ c o, s.heap.get? c = some o → h'.get? c = some o) → Q (.ref (s.heap.objs.size + 4)) { s with heap := h' }) :
    wpAny (model prog w) A (call (.type "zip") [.ref l, .str x t]) Q E s := by
  refine callType_new F.called_zip (by decide) (F.typeCall_zip_2 _ _) (F.newCall_zip_2 _ _) (fun obj => F.args_object_init_3 obj _ _) F.entry_zip_new (meets_zipS l xs x t ha) ⟨hl, ?_⟩
  have z1 : (zs1 s.heap l).objs.size = s.heap.objs.size + 1 := Heap.size_push ..
  have z2 : (zs2 s.heap l x t).objs.size = s.heap.objs.size + 2 := by rw [Heap.size_push, z1]
  have z3 : (zs3 s.heap l x t).objs.size = s.heap.objs.size + 3 := by rw [Heap.size_push, z2]
  have z4 : (zs4 s.heap l x t).objs.size = s.heap.objs.size + 4 := by rw [Heap.size_push, z3]
  have g5 : (zs5 s.heap l x t).get? (zs4 s.heap l x t).objs.size = some _ := Heap.get?_push_size _ rfl
  have g4 : (zs5 s.heap l x t).get? (zs3 s.heap l x t).objs.size = some _ := Heap.get?_push_of_some _ (Heap.get?_push_size _ rfl)
  have g3 : (zs5 s.heap l x t).get? (zs2 s.heap l x t).objs.size = some _ := Heap.get?_push_of_some _ (Heap.get?_push_of_some _ (Heap.get?_push_size _ rfl))
  have g2 : (zs5 s.heap l x t).get? (zs1 s.heap l).objs.size = some _ := Heap.get?_push_of_some _ (Heap.get?_push_of_some _ (Heap.get?_push_of_some _ (Heap.get?_push_size _ rfl)))
  have g1 : (zs5 s.heap l x t).get? s.heap.objs.size = some _ := Heap.get?_push_of_some _ (Heap.get?_push_of_some _ (Heap.get?_push_of_some _ (Heap.get?_push_of_some _ (Heap.get?_push_size _ rfl))))
  show _ ∧ _
  rw [z2, z3, z4] at g5
  rw [z1, z2] at g3
  rw [z3] at g4
  rw [z1] at g2
  rw [z4]
  exact ⟨⟨_, g5, rfl⟩, h _ g5 g3 g4 ⟨_, g1, rfl, rfl⟩ ⟨_, g2, rfl, rfl⟩ fun c o y =>
    Heap.get?_push_of_some _ (Heap.get?_push_of_some _ (Heap.get?_push_of_some _ (Heap.get?_push_of_some _ (Heap.get?_push_of_some _ y))))⟩
end
end S_Zp
section S_Zf
section
variable {prog : Program} {w : World} {A : Around} {E : Value → Shared → Prop} {s : Shared} {env : Env} {h₀ : Heap}
theorem for_zipS {elts : List Expr} {k : Nat} {pos : Pos} {body : List Stmt} {Q : Flow → Shared → Prop} {l : Addr} {lo : Obj} {vs : List Value} {x : PySem.Str} {t : Tok} {n : Nat} {m₀ : PySem.Str → Option Value} {news : Led} (J : Nat → (PySem.Str → Option Value) → Prop)
    (hh : A.handled = none) (F : Fr h₀ env.locals s.heap m₀) (N : News h₀ env.locals s.heap news) (hm : (l, lo) ∈ news) (hc : lo.cls = .type "list") (hd : lo.data = .seq vs.toArray n) (ha : x.cps.all (· < 128) = true)
    (hj : J 0 m₀)
    (step : ∀ i v c u T m' own h' tk', vs[i]? = some v → x.cps[i]? = some c → J i m' → IsTup h' T #[v, .str ⟨#[c]⟩ u] → Fr h₀ env.locals h' m' → News h₀ env.locals h' (own ++ news) →
      wpAny (model prog w) A (assign (.Tuple elts k pos) env (.ref T)) (fun _ s₂ => wpAny (model prog w) A (execs body env) (AgainF h₀ env.locals { s with heap := h', toks := tk' } [] (fun m' n' => n' = own ++ news ∧ J (i + 1) m') Q) E s₂) E { s with heap := h', toks := tk' })
    (done : ∀ m' h' tk', J (min vs.length x.cps.size) m' → Fr h₀ env.locals h' m' → News h₀ env.locals h' news → Q .next { s with heap := h', toks := tk' }) :
    wpAny (model prog w) A (call (.type "zip") [.ref l, .str x t]) (fun xv s₁ => wpAny (model prog w) A (pyIter xv) (fun it s₂ => TurnsAt prog w A h₀ env (.Tuple elts k pos) body Q E it s₂) E s₁) E s := by
  have hax := N _ hm
  have hl : s.heap.IsList l vs.toArray := ⟨lo, hax.1, hc, n, hd⟩
  have hlt : l < s.heap.objs.size := Heap.lt_size hax.1
  have hLs : env.locals < s.heap.objs.size := F.ns.lt
  have nl : ∀ k, l ≠ s.heap.objs.size + k := fun k => Nat.ne_of_lt (Nat.lt_of_lt_of_le hlt (Nat.le_add_right _ _))
  have nL : ∀ k, env.locals ≠ s.heap.objs.size + k := fun k => Nat.ne_of_lt (Nat.lt_of_lt_of_le hLs (Nat.le_add_right _ _))
  have new : ∀ k, h₀.get? (s.heap.objs.size + k) = none := fun k => ktu_new F (Nat.le_add_right _ _)
  have nn : ∀ p ∈ news, ∀ k, p.1 ≠ s.heap.objs.size + k := fun p hp k => Nat.ne_of_lt (Nat.lt_of_lt_of_le (Heap.lt_size (N p hp).1) (Nat.le_add_right _ _))
  refine call_zipS hl ha fun h' hz hTI hTO hi1 hi2 hk => ?_
  refine wpAny_pyIter_zip hz ?_
  have ne : ∀ a b : Nat, a ≠ b → s.heap.objs.size + a ≠ s.heap.objs.size + b := fun a b h e => h (Nat.add_left_cancel e)
  have D1 := Draws.list (prog := prog) (w := w) (A := A.in1) hh (s.heap.objs.size + 0) l (nl 0) vs.toArray
  have D2 := Draws.strAscii (prog := prog) (w := w) (A := A.in1) hh (s.heap.objs.size + 1) x t
  have Z : Zap (s.heap.objs.size + 4) (s.heap.objs.size + 2) (s.heap.objs.size + 3) (s.heap.objs.size + 0) (s.heap.objs.size + 1) [s.heap.objs.size + 0, l] [s.heap.objs.size + 1] := by
    constructor
    all_goals first
      | exact ne _ _ (by decide)
      | (intro hx; simp only [List.mem_cons, List.not_mem_nil, or_false] at hx; rcases hx with hx | hx <;> first | exact ne _ _ (by decide) hx | exact nl _ hx.symm)
      | (intro hx; simp only [List.mem_cons, List.not_mem_nil, or_false] at hx; exact ne _ _ (by decide) hx)
  have W := KTurns.ofWalksU (elts := elts) (k := k) (pos := pos) (walks_zipD D1 D2 Z (by simp) (by simp)).toU
  have hsz : min vs.toArray.size x.cps.size = min vs.length x.cps.size := by simp
  refine ⟨_, _, _, _, _, _, _, m₀, news, fun i m' n' => n' = news ∧ J i m', rfl, W, ?_, ?_, ?_, ⟨hz, hTI, ⟨_, _, hTO⟩, ⟨hi1, hl.at fun o e => hk _ o e⟩, hi2⟩, F.keeps hk, N.grown hk, ⟨rfl, hj⟩, ?_, ?_⟩
  · intro hx
    simp only [List.mem_cons, List.mem_append, List.not_mem_nil, or_false] at hx
    rcases hx with hx | hx | hx | ((hx | hx) | hx)
    · exact nL _ hx
    · exact nL _ hx
    · exact nL _ hx
    · exact nL _ hx
    · exact hax.2.1 hx.symm
    · exact nL _ hx
  · intro b hb
    simp only [List.mem_cons, List.not_mem_nil, or_false] at hb
    rcases hb with rfl | rfl | rfl | rfl <;> exact new _
  · intro p hp hb
    simp only [List.mem_cons, List.not_mem_nil, or_false] at hb
    rcases hb with hb | hb | hb | hb <;> exact nn p hp _ hb
  · rintro i v m₁ news₁ h₁ tk₁ own hi ⟨T, vals, rfl, ⟨a, b, ha1, ⟨c, u, hc1, rfl⟩, rfl⟩, hT⟩ ⟨rfl, hJ⟩ hoff _ _ _ _ F₁ N₁
    refine wpAny_mono (step i a c u T m₁ own h₁ tk₁ (by simpa using ha1) hc1 hJ hT F₁ N₁) (fun _ s₂ h₂ => wpAny_mono h₂ (fun f s₃ p => ?_) fun _ _ e => e) fun _ _ e => e
    cases f with
    | ret v => exact .ret p
    | brk => exact .brk p
    | next => obtain ⟨h', tk, m', n', e, F', N', _, e2, hj'⟩ := p; subst e2; exact .next ⟨rfl, h', tk, m', _, e, F', N', hoff, rfl, hj'⟩
    | cont => obtain ⟨h', tk, m', n', e, F', N', _, e2, hj'⟩ := p; subst e2; exact .cont ⟨rfl, h', tk, m', _, e, F', N', hoff, rfl, hj'⟩
  · rintro h' tk m' n' F' N' _ ⟨rfl, hJ⟩
    exact done m' h' tk (hsz ▸ hJ) F' N'
end
end S_Zf
section S_FFi
example : True := by
  k_with "AgainF" => (first | (with_reducible refine AgainF.ret ?_) | (with_reducible refine AgainF.brk ?_))
  trivial
local macro_rules | `(tactic| walk_at $s:str) => if s.getString ∈ ["exec For", "exec For Name Name cons nil", "exec For Name Call cons nil", "exec For Tuple Call", "exec For Tuple Call cons nil", "call type:zip"] then `(tactic| (refine Stop.mk ?_)) else Lean.Macro.throwUnsupported
noncomputable def fitsB (ws qs : List Nat) : Bool := (ws.zip qs).all fun p => p.1 == p.2
theorem occ_one : ∀ a ∈ signs17, ∀ c ∈ signs17, (Builtin.Str.occurrences (tx [a]) { cps := #[c] } 0 (tx [a]).length 1).isEmpty = !(a == c) := by decide +kernel
theorem fitsB_no {ws qs : List Nat} {i a c : Nat} (h1 : ws[i]? = some a) (h2 : qs[i]? = some c) (h : a ≠ c) : fitsB ws qs = false := by
  unfold fitsB
  rw [List.all_eq_false]
  refine ⟨(a, c), ?_, by simpa using h⟩
  exact List.mem_of_getElem? (i := i) (by rw [List.getElem?_zip_eq_some]; exact ⟨h1, h2⟩)
theorem fitsB_yes {ws qs : List Nat} (h : ∀ j, j < min ws.length qs.length → ws[j]? = qs[j]?) : fitsB ws qs = true := by
  unfold fitsB
  rw [List.all_eq_true]
  rintro ⟨a, c⟩ hm
  obtain ⟨i, hi⟩ := List.mem_iff_getElem?.mp hm
  rw [List.getElem?_zip_eq_some] at hi
  have l1 : i < ws.length := by
    rcases Nat.lt_or_ge i ws.length with h | h
    · exact h
    · rw [List.getElem?_eq_none h] at hi; cases hi.1
  have l2 : i < qs.length := by
    rcases Nat.lt_or_ge i qs.length with h | h
    · exact h
    · rw [List.getElem?_eq_none h] at hi; cases hi.2
  have := h i (by omega)
  rw [hi.1, hi.2] at this
  simpa using this
namespace Kfits
abbrev Par : Type := (World) × (List Nat) × (List Nat) × (List Value) × (Led) × (Led) × (Nat) × (Addr) × (Tok) × (Program) × (List PySem.Str) × (ExcName → Option Value) × (PySem.Str → Option Value) × (PySem.Str → Option Value) × (Nat) × (Nat) × (Option (List Code)) × (PySem.Str) × (Scope) × (Addr) × (Value) × (List (PySem.Str × Addr)) × (List Env) × (Around) × (Heap) × (Heap) × (Addr) × (PySem.Str → Option Value) × (Shared) × (Value → Shared → Prop) × (Value → Shared → Prop)
theorem ne : Nonempty Par := ⟨by refine ⟨?_, ?_, ?_, ?_, ?_, ?_, ?_, ?_, ?_, ?_, ?_, ?_, ?_, ?_, ?_, ?_, ?_, ?_, ?_, ?_, ?_, ?_, ?_, ?_, ?_, ?_, ?_, ?_, ?_, ?_, ?_⟩ <;> first | exact W0 | exact default | exact {} | exact FD0⟩
noncomputable def Goal : Par → Prop := fun e0 => (fun (w : World) (ws : List Nat) (qs : List Nat) (vs : List Value) (tl : Led) (news : Led) (cap : Nat) (l : Addr) (t0 : Tok) (p : Program) (loose : List PySem.Str) (mean : ExcName → Option Value) (mg : PySem.Str → Option Value) (mb : PySem.Str → Option Value) (dp : Nat) (un : Nat) (gd : Option (List Code)) (cn : PySem.Str) (cs : Scope) (a : Addr) (ccd : Value) (cl : List (PySem.Str × Addr)) (outer : List Env) (A₀ : Around) (base : Heap) (h₀ : Heap) (L : Addr) (m : PySem.Str → Option Value) (s : Shared) (Q : Value → Shared → Prop) (E : Value → Shared → Prop) => (hv : F2 (ItmV tl) ws vs) → (hl : (l, W.listOf vs.toArray cap) ∈ news) → (htl : ∀ p ∈ tl, p ∈ news) → (hs : ∀ c ∈ ws, c ∈ signs17) → (hq : ∀ c ∈ qs, c ∈ signs17) → (hlen : qs.length ≤ 100) → FnG w 940 121 [.ref l, .str (tx qs) t0] news (fun r n' => r = .bool (fitsB ws qs) ∧ n' = news) p loose mean mg mb dp un gd cn cs a ccd cl outer A₀ base h₀ L m s Q E) e0.1 e0.2.1 e0.2.2.1 e0.2.2.2.1 e0.2.2.2.2.1 e0.2.2.2.2.2.1 e0.2.2.2.2.2.2.1 e0.2.2.2.2.2.2.2.1 e0.2.2.2.2.2.2.2.2.1 e0.2.2.2.2.2.2.2.2.2.1 e0.2.2.2.2.2.2.2.2.2.2.1 e0.2.2.2.2.2.2.2.2.2.2.2.1 e0.2.2.2.2.2.2.2.2.2.2.2.2.1 e0.2.2.2.2.2.2.2.2.2.2.2.2.2.1 e0.2.2.2.2.2.2.2.2.2.2.2.2.2.2.1 e0.2.2.2.2.2.2.2.2.2.2.2.2.2.2.2.1 e0.2.2.2.2.2.2.2.2.2.2.2.2.2.2.2.2.1 e0.2.2.2.2.2.2.2.2.2.2.2.2.2.2.2.2.2.1 e0.2.2.2.2.2.2.2.2.2.2.2.2.2.2.2.2.2.2.1 e0.2.2.2.2.2.2.2.2.2.2.2.2.2.2.2.2.2.2.2.1 e0.2.2.2.2.2.2.2.2.2.2.2.2.2.2.2.2.2.2.2.2.1 e0.2.2.2.2.2.2.2.2.2.2.2.2.2.2.2.2.2.2.2.2.2.1 e0.2.2.2.2.2.2.2.2.2.2.2.2.2.2.2.2.2.2.2.2.2.2.1 e0.2.2.2.2.2.2.2.2.2.2.2.2.2.2.2.2.2.2.2.2.2.2.2.1 e0.2.2.2.2.2.2.2.2.2.2.2.2.2.2.2.2.2.2.2.2.2.2.2.2.1 e0.2.2.2.2.2.2.2.2.2.2.2.2.2.2.2.2.2.2.2.2.2.2.2.2.2.1 e0.2.2.2.2.2.2.2.2.2.2.2.2.2.2.2.2.2.2.2.2.2.2.2.2.2.2.1 e0.2.2.2.2.2.2.2.2.2.2.2.2.2.2.2.2.2.2.2.2.2.2.2.2.2.2.2.1 e0.2.2.2.2.2.2.2.2.2.2.2.2.2.2.2.2.2.2.2.2.2.2.2.2.2.2.2.2.1 e0.2.2.2.2.2.2.2.2.2.2.2.2.2.2.2.2.2.2.2.2.2.2.2.2.2.2.2.2.2.1 e0.2.2.2.2.2.2.2.2.2.2.2.2.2.2.2.2.2.2.2.2.2.2.2.2.2.2.2.2.2.2
noncomputable def q : Par := pick ne Goal
@[irreducible] noncomputable def w : World := q.1
@[irreducible] noncomputable def ws : List Nat := q.2.1
@[irreducible] noncomputable def qs : List Nat := q.2.2.1
@[irreducible] noncomputable def vs : List Value := q.2.2.2.1
@[irreducible] noncomputable def tl : Led := q.2.2.2.2.1
@[irreducible] noncomputable def news : Led := q.2.2.2.2.2.1
@[irreducible] noncomputable def cap : Nat := q.2.2.2.2.2.2.1
@[irreducible] noncomputable def l : Addr := q.2.2.2.2.2.2.2.1
@[irreducible] noncomputable def t0 : Tok := q.2.2.2.2.2.2.2.2.1
@[irreducible] noncomputable def p : Program := q.2.2.2.2.2.2.2.2.2.1
@[irreducible] noncomputable def loose : List PySem.Str := q.2.2.2.2.2.2.2.2.2.2.1
@[irreducible] noncomputable def mean : ExcName → Option Value := q.2.2.2.2.2.2.2.2.2.2.2.1
@[irreducible] noncomputable def mg : PySem.Str → Option Value := q.2.2.2.2.2.2.2.2.2.2.2.2.1
@[irreducible] noncomputable def mb : PySem.Str → Option Value := q.2.2.2.2.2.2.2.2.2.2.2.2.2.1
@[irreducible] noncomputable def dp : Nat := q.2.2.2.2.2.2.2.2.2.2.2.2.2.2.1
@[irreducible] noncomputable def un : Nat := q.2.2.2.2.2.2.2.2.2.2.2.2.2.2.2.1
@[irreducible] noncomputable def gd : Option (List Code) := q.2.2.2.2.2.2.2.2.2.2.2.2.2.2.2.2.1
@[irreducible] noncomputable def cn : PySem.Str := q.2.2.2.2.2.2.2.2.2.2.2.2.2.2.2.2.2.1
@[irreducible] noncomputable def cs : Scope := q.2.2.2.2.2.2.2.2.2.2.2.2.2.2.2.2.2.2.1
@[irreducible] noncomputable def a : Addr := q.2.2.2.2.2.2.2.2.2.2.2.2.2.2.2.2.2.2.2.1
@[irreducible] noncomputable def ccd : Value := q.2.2.2.2.2.2.2.2.2.2.2.2.2.2.2.2.2.2.2.2.1
@[irreducible] noncomputable def cl : List (PySem.Str × Addr) := q.2.2.2.2.2.2.2.2.2.2.2.2.2.2.2.2.2.2.2.2.2.1
@[irreducible] noncomputable def outer : List Env := q.2.2.2.2.2.2.2.2.2.2.2.2.2.2.2.2.2.2.2.2.2.2.1
@[irreducible] noncomputable def A₀ : Around := q.2.2.2.2.2.2.2.2.2.2.2.2.2.2.2.2.2.2.2.2.2.2.2.1
@[irreducible] noncomputable def base : Heap := q.2.2.2.2.2.2.2.2.2.2.2.2.2.2.2.2.2.2.2.2.2.2.2.2.1
@[irreducible] noncomputable def h₀ : Heap := q.2.2.2.2.2.2.2.2.2.2.2.2.2.2.2.2.2.2.2.2.2.2.2.2.2.1
@[irreducible] noncomputable def L : Addr := q.2.2.2.2.2.2.2.2.2.2.2.2.2.2.2.2.2.2.2.2.2.2.2.2.2.2.1
@[irreducible] noncomputable def m : PySem.Str → Option Value := q.2.2.2.2.2.2.2.2.2.2.2.2.2.2.2.2.2.2.2.2.2.2.2.2.2.2.2.1
@[irreducible] noncomputable def s : Shared := q.2.2.2.2.2.2.2.2.2.2.2.2.2.2.2.2.2.2.2.2.2.2.2.2.2.2.2.2.1
@[irreducible] noncomputable def Q : Value → Shared → Prop := q.2.2.2.2.2.2.2.2.2.2.2.2.2.2.2.2.2.2.2.2.2.2.2.2.2.2.2.2.2.1
@[irreducible] noncomputable def E : Value → Shared → Prop := q.2.2.2.2.2.2.2.2.2.2.2.2.2.2.2.2.2.2.2.2.2.2.2.2.2.2.2.2.2.2
noncomputable def BH (g₉ : Heap) (l₉ : Addr) (h₉ : Heap) (t₉ : Nat) : Prop := BodyH w 121 120 20 [(PySem.Str.ofString "part", .str (tx qs) t0), (PySem.Str.ofString "items", .ref l)] news p loose mean mg mb dp un gd cn cs a ccd cl outer base h₀ L m s Q E (rfl : stm 20 = _) g₉ l₉ h₉ t₉
noncomputable def ev : EV := pick evne (fun e => BH e.g e.l e.h e.t)
@[irreducible] noncomputable def g' : Heap := ev.g
@[irreducible] noncomputable def L' : Addr := ev.l
@[irreducible] noncomputable def h' : Heap := ev.h
@[irreducible] noncomputable def tk' : Nat := ev.t
theorem body (hv : F2 (ItmV tl) ws vs) (hl : (l, W.listOf vs.toArray cap) ∈ news) (htl : ∀ p ∈ tl, p ∈ news) (hs : ∀ c ∈ ws, c ∈ signs17) (hq : ∀ c ∈ qs, c ∈ signs17) (hlen : qs.length ≤ 100) (B : Below A₀ base outer h₀) (X : (K0 w.params).In h₀) (T : Top p loose mean mg mb h₀) (C1 : CodeHd h₀ 61 57) (C2 : CodeHd h₀ 170 168) (hk : cs.kind = .function) (hd : dp < 940) (hu : un < 8 * 940) (hret : ∀ r news' h' tk', Fr h₀ L h' m → News h₀ L h' news' → ((fun r n' => r = .bool (fitsB ws qs) ∧ n' = news)) r news' → Q r { s with heap := h', toks := tk' }) : BH g' L' h' tk' := by
  have yc : Clo := .mk
  w_on
  intro F' N' B' X' T' C1' C2' lt'
  (try dsimp only)
  k_steps
  rename Fr _ _ _ _ => FW
  rename News _ _ _ _ => NW
  refine Stop.go (For_turns FW ?_)
  k_steps
  refine Stop.go (for_zipS (fun i m' => KeptK [PySem.Str.ofString "item", PySem.Str.ofString "sign"] _ m' ∧ ∀ j, j < i → ws[j]? = qs[j]?) rfl (by assumption) (by assumption) hl rfl rfl ?ha ⟨fun _ _ => rfl, fun j h => absurd h (Nat.not_lt_zero _)⟩ ?step ?done)
  case ha =>
    unfold tx
    simp only [List.size_toArray, List.all_toArray', List.all_eq_true, decide_eq_true_eq]
    have h128 : ∀ c ∈ signs17, c < 128 := by decide
    exact fun c hc => h128 c (hq c hc)
  case step =>
    intro i v c u T m' own h' tk' hv1 hc1
    intro zz1
    obtain ⟨hk', hJ⟩ := zz1
    revert hk' hJ
    intro hk' hJ
    intro hT F' N'
    clear FW NW
    have F2 := fr_to F' (mapK_eq hk')
    clear F'
    dsimp only [mapK] at F2
    have hq1 : qs[i]? = some c := by simpa [tx] using hc1
    have hlt : i < ws.length := by
      rw [hv.length]
      rcases Nat.lt_or_ge i vs.length with h | h
      · exact h
      · rw [List.getElem?_eq_none h] at hv1; cases hv1
    obtain ⟨c0, hc0⟩ : ∃ c0, ws[i]? = some c0 := ⟨_, List.getElem?_eq_getElem hlt⟩
    revert c0 hc0
    intro c0 hc0
    obtain ⟨v', e1, a', tt, zz2, hm⟩ := hv.get i hc0
    revert v' e1 a' tt zz2 hm
    intro v' e1 a' tt zz2 hm
    subst zz2
    rw [hv1] at e1
    cases e1
    have hm2 : (a', tupO c0 tt) ∈ own ++ news := List.mem_append_right _ (htl _ hm)
    have ho := occ_one c0 (hs c0 (List.mem_of_getElem? hc0)) c (hq c (List.mem_of_getElem? hq1))
    by_cases hcc : c0 = c
    · rw [beq_iff_eq.mpr hcc] at ho
      have ho2 : ((!(Builtin.Str.occurrences (tx [c0]) { cps := #[c] } 0 (tx [c0]).length 1).isEmpty) == false) = false := by rw [ho]; rfl
      k_steps
      refine AgainF.next (by assumption) (by assumption) (fun _ h => nomatch h) (fun _ h => h) (fun _ _ _ h => nomatch h) ⟨rfl, by k_extra "kept", ?_⟩
      intro j hj
      rcases Nat.lt_succ_iff_lt_or_eq.mp hj with h | rfl
      · exact hJ j h
      · rw [hc0, hq1, hcc]
    · rw [beq_eq_false_iff_ne.mpr hcc] at ho
      have ho2 : ((!(Builtin.Str.occurrences (tx [c0]) { cps := #[c] } 0 (tx [c0]).length 1).isEmpty) == false) = true := by rw [ho]; rfl
      k_steps
      rename News _ _ _ _ => NZ
      exact hret _ _ _ _ (by assumption) (fun p hp => NZ p (List.mem_append_right _ hp)) ⟨by rw [fitsB_no hc0 hq1 hcc], rfl⟩
  case done =>
    intro m' h' tk'
    intro zz3
    obtain ⟨hk', hJ⟩ := zz3
    revert hk' hJ
    intro hk' hJ
    intro F' N'
    clear FW NW
    have F2 := fr_to F' (mapK_eq hk')
    clear F'
    dsimp only [mapK] at F2
    k_steps
    have hy : fitsB ws qs = true := fitsB_yes fun j hj => hJ j (by rw [← hv.length]; simpa [tx] using hj)
    exact hret _ _ _ _ (by assumption) (by assumption) ⟨by rw [hy], rfl⟩
theorem main (hv : F2 (ItmV tl) ws vs) (hl : (l, W.listOf vs.toArray cap) ∈ news) (htl : ∀ p ∈ tl, p ∈ news) (hs : ∀ c ∈ ws, c ∈ signs17) (hq : ∀ c ∈ qs, c ∈ signs17) (hlen : qs.length ≤ 100) : FnG w 940 121 [.ref l, .str (tx qs) t0] news (fun r n' => r = .bool (fitsB ws qs) ∧ n' = news) p loose mean mg mb dp un gd cn cs a ccd cl outer A₀ base h₀ L m s Q E := by
  intro B F X N T C1 C2 hk hd hu hret
  refine wpAny_call ?_
  with_unfolding_all refine' code_my (binds := [(PySem.Str.ofString "part", .str (tx qs) t0), (PySem.Str.ofString "items", .ref l)]) B F X N T C1 C2 ?kA ?kF ?kK ?ko ?est ?kcd ?kroom ?kbind ?kloc (fun g₁ l₁ h₁ t₁ _ => pick_all evne (P := fun e => BH e.g e.l e.h e.t) ?bd ⟨g₁, l₁, h₁, t₁⟩) ?kco ?kgen ?kkind ?kcell
  (case kA => exact rfl)
  (case kF => exact rfl)
  (case kK => exact hk)
  (case ko => k_is)
  (case est => exact rfl)
  (case kcd => k_is)
  (case kroom => (show dp < 1000; omega))
  (case kbind => exact BindsTo.of_eq rfl)
  (case kloc => exact locs rfl)
  (case kco => exact rfl)
  (case kgen => exact rfl)
  (case kkind => exact rfl)
  (case kcell => decide)
  (case bd => with_unfolding_all exact body hv hl htl hs hq hlen B X T C1 C2 hk hd hu hret)
theorem goal_q : Goal q := by with_unfolding_all exact main
end Kfits
theorem fits (w : World) (ws qs : List Nat) (vs : List Value) (tl news : Led) (cap : Nat) (l : Addr) (t0 : Tok) (hv : F2 (ItmV tl) ws vs) (hl : (l, W.listOf vs.toArray cap) ∈ news) (htl : ∀ p ∈ tl, p ∈ news) (hs : ∀ c ∈ ws, c ∈ signs17) (hq : ∀ c ∈ qs, c ∈ signs17) (hlen : qs.length ≤ 100) :
    Fn w 940 121 [.ref l, .str (tx qs) t0] news (fun r n' => r = .bool (fitsB ws qs) ∧ n' = news) := by
  exact fun p loose mean mg mb dp un gd cn cs a ccd cl outer A₀ base h₀ L m s Q E => pick_all Kfits.ne (P := Kfits.Goal) Kfits.goal_q ⟨w, ws, qs, vs, tl, news, cap, l, t0, p, loose, mean, mg, mb, dp, un, gd, cn, cs, a, ccd, cl, outer, A₀, base, h₀, L, m, s, Q, E⟩ hv hl htl hs hq hlen
end S_FFi
section S_Nn
open PySem.SeqAt in
section
variable {prog : Program} {w : World} {A : Around} {E : Value → Shared → Prop} {s : Shared} {h₀ : Heap} {L : Addr} {m : PySem.Str → Option Value} {news tl : Led} {ws : List Nat} {vs : List Value} {l : Addr} {cap : Nat} {Q : Value → Shared → Prop}
noncomputable def isNone : Value → Bool
  | .none => true
  | _ => false
theorem F2.mem {α β : Type} {R : α → β → Prop} : ∀ {l : List α} {m : List β}, F2 R l m → ∀ b ∈ m, ∃ a ∈ l, R a b
  | _, _, .nil, _, h => nomatch h
  | _, _, .cons (a := a) h t, b, hb => by
    rcases List.mem_cons.mp hb with rfl | hb
    · exact ⟨a, List.mem_cons_self, h⟩
    · obtain ⟨a', h1, h2⟩ := t.mem b hb
      exact ⟨a', List.mem_cons_of_mem _ h1, h2⟩
theorem items_eqs (N : News h₀ L s.heap news) (htl : ∀ p ∈ tl, p ∈ news) (hv : F2 (ItmV tl) ws vs) (hu : A.units < cLine) : ∀ y ∈ (vs ++ [Value.none]).toArray, PySem.SeqAt.EqAt A s y .none (isNone y) := by
  intro y hy
  rw [List.mem_toArray, List.mem_append, List.mem_singleton] at hy
  rcases hy with hy | rfl
  · obtain ⟨c, _, a, t, rfl, hm⟩ := hv.mem y hy
    exact PySem.SeqAt.EqAt.tuple_none ⟨_, (N _ (htl _ hm)).1, rfl, _, rfl⟩ hu
  · exact PySem.SeqAt.EqAt.same _
theorem none_in (N : News h₀ L s.heap news) (hl : (l, W.listOf (vs ++ [Value.none]).toArray cap) ∈ news) (htl : ∀ p ∈ tl, p ∈ news) (hv : F2 (ItmV tl) ws vs) (hu : A.in1.units < cLine) (h : Q (.bool false) s) :
    wpAny (model prog w) A (compareOp .NotIn .none (.ref l)) Q E s := by
  refine PySem.SeqAt.notIn_listAt isNone (isList_of N hl) (items_eqs N htl hv hu) ?_
  · have : (vs ++ [Value.none]).toArray.any isNone = true := by
      rw [List.any_toArray, List.any_append]
      simp [isNone]
    rw [this]; exact h
theorem none_index (N : News h₀ L s.heap news) (hl : (l, W.listOf (vs ++ [Value.none]).toArray cap) ∈ news) (htl : ∀ p ∈ tl, p ∈ news) (hv : F2 (ItmV tl) ws vs) (hu : A.in1.units < cLine) (hn : vs.length ≤ 1000)
    (h : Q (.int (vs.length : Nat) s.toks) { s with toks := s.toks + 1 }) : wpAny (model prog w) A (call (.builtin "list.index") [.ref l, .none]) Q E s := by
  have ho := (N _ hl).1
  refine call_meets F.slot_list_index ⟨_, ho, rfl⟩ F.entry_list_index (F.args_list_index_2 _ _)
    (PySem.SeqAt.list_indexAt l (vs ++ [Value.none]).toArray cap none #[] .none isNone vs.length (by simp) (by omega) ?_ ?_) ⟨ho, items_eqs N htl hv hu, h⟩
  · simp [isNone]
  · intro k hk hlt
    have e : (vs ++ [Value.none]).toArray[k] = vs[k] := by simp [List.getElem_append_left hlt]
    rw [e]
    obtain ⟨c, _, a, t, e2, _⟩ := hv.mem vs[k] (List.getElem_mem hlt)
    rw [e2]; rfl
end
end S_Nn
local macro_rules | `(tactic| k_mem) => `(tactic| first | assumption | ((repeat (refine List.mem_cons_of_mem _ ?_)); assumption))
example : True := by
  k_with "subscriptTail Name Slice ref ref" => ((refine' kmk_slice_lit ?jF ?jN ?jl ?jp ?jq ?je ?_ ?js ?jt ?jz; (case jF => k_asm); (case jN => k_asm); (case jl => exact isList_of (by k_asm) (by k_mem)); (case jp => kmk_part); (case jq => kmk_part); (case je => assumption); (case js => with_unfolding_all rfl); (case jt => kmk_pure); (case jz => unfold sizeLine; k_extra "om"); (walk_at "l5"; (try k_sweep))))
  trivial
section S_FTk
local macro_rules | `(tactic| walk_at "no rule") => `(tactic| skip)
example : True := by
  k_with "compareOp NotIn" => (((with_reducible show wpAny _ _ (compareOp CmpOp.NotIn Value.none (Value.ref _)) _ _ _); refine' none_in ?k1 ?k2 ?k3 ?k4 ?k5 ?_; (case k1 => k_asm); (case k2 => k_mem); (case k3 => assumption); (case k4 => assumption); (case k5 => (simp only [units_in1, units_deeper]; unfold cLine; omega))))
  k_with "call builtin:list.index" => (((try dsimp only [List.nil_append, List.cons_append]); refine' none_index ?k1 ?k2 ?k3 ?k4 ?k5 ?k6 ?_; (case k1 => k_asm); (case k2 => k_mem); (case k3 => assumption); (case k4 => assumption); (case k6 => omega); (case k5 => (simp only [units_in1, units_deeper]; unfold cLine; omega))))
  trivial
local macro_rules | `(tactic| walk_at "call ref") => `(tactic| ((with_reducible show wpAny _ _ (call (Value.ref 121) _) _ _ _); refine Stop.mk ?_))
namespace Ktakes
abbrev Par : Type := (World) × (List Nat) × (List Nat) × (List Value) × (Led) × (Led) × (Nat) × (Addr) × (Tok) × (Program) × (List PySem.Str) × (ExcName → Option Value) × (PySem.Str → Option Value) × (PySem.Str → Option Value) × (Nat) × (Nat) × (Option (List Code)) × (PySem.Str) × (Scope) × (Addr) × (Value) × (List (PySem.Str × Addr)) × (List Env) × (Around) × (Heap) × (Heap) × (Addr) × (PySem.Str → Option Value) × (Shared) × (Value → Shared → Prop) × (Value → Shared → Prop)
theorem ne : Nonempty Par := ⟨by refine ⟨?_, ?_, ?_, ?_, ?_, ?_, ?_, ?_, ?_, ?_, ?_, ?_, ?_, ?_, ?_, ?_, ?_, ?_, ?_, ?_, ?_, ?_, ?_, ?_, ?_, ?_, ?_, ?_, ?_, ?_, ?_⟩ <;> first | exact W0 | exact default | exact {} | exact FD0⟩
noncomputable def Goal : Par → Prop := fun e0 => (fun (w : World) (ws : List Nat) (qs : List Nat) (vs : List Value) (tl : Led) (news : Led) (cap : Nat) (l : Addr) (t0 : Tok) (p : Program) (loose : List PySem.Str) (mean : ExcName → Option Value) (mg : PySem.Str → Option Value) (mb : PySem.Str → Option Value) (dp : Nat) (un : Nat) (gd : Option (List Code)) (cn : PySem.Str) (cs : Scope) (a : Addr) (ccd : Value) (cl : List (PySem.Str × Addr)) (outer : List Env) (A₀ : Around) (base : Heap) (h₀ : Heap) (L : Addr) (m : PySem.Str → Option Value) (s : Shared) (Q : Value → Shared → Prop) (E : Value → Shared → Prop) => (hv : F2 (ItmV tl) ws vs) → (hl : (l, W.listOf (vs ++ [Value.none]).toArray cap) ∈ news) → (htl : ∀ p ∈ tl, p ∈ news) → (hs : ∀ c ∈ ws, c ∈ signs17) → (hq : ∀ c ∈ qs, c ∈ signs17) → (hlen : qs.length ≤ 100) → (hwl : ws.length ≤ 30) → FnG w 930 128 [.ref l, .str (tx qs) t0] news (fun r n' => r = .bool (decide (ws.length ≤ qs.length) && fitsB ws qs) ∧ n' = news) p loose mean mg mb dp un gd cn cs a ccd cl outer A₀ base h₀ L m s Q E) e0.1 e0.2.1 e0.2.2.1 e0.2.2.2.1 e0.2.2.2.2.1 e0.2.2.2.2.2.1 e0.2.2.2.2.2.2.1 e0.2.2.2.2.2.2.2.1 e0.2.2.2.2.2.2.2.2.1 e0.2.2.2.2.2.2.2.2.2.1 e0.2.2.2.2.2.2.2.2.2.2.1 e0.2.2.2.2.2.2.2.2.2.2.2.1 e0.2.2.2.2.2.2.2.2.2.2.2.2.1 e0.2.2.2.2.2.2.2.2.2.2.2.2.2.1 e0.2.2.2.2.2.2.2.2.2.2.2.2.2.2.1 e0.2.2.2.2.2.2.2.2.2.2.2.2.2.2.2.1 e0.2.2.2.2.2.2.2.2.2.2.2.2.2.2.2.2.1 e0.2.2.2.2.2.2.2.2.2.2.2.2.2.2.2.2.2.1 e0.2.2.2.2.2.2.2.2.2.2.2.2.2.2.2.2.2.2.1 e0.2.2.2.2.2.2.2.2.2.2.2.2.2.2.2.2.2.2.2.1 e0.2.2.2.2.2.2.2.2.2.2.2.2.2.2.2.2.2.2.2.2.1 e0.2.2.2.2.2.2.2.2.2.2.2.2.2.2.2.2.2.2.2.2.2.1 e0.2.2.2.2.2.2.2.2.2.2.2.2.2.2.2.2.2.2.2.2.2.2.1 e0.2.2.2.2.2.2.2.2.2.2.2.2.2.2.2.2.2.2.2.2.2.2.2.1 e0.2.2.2.2.2.2.2.2.2.2.2.2.2.2.2.2.2.2.2.2.2.2.2.2.1 e0.2.2.2.2.2.2.2.2.2.2.2.2.2.2.2.2.2.2.2.2.2.2.2.2.2.1 e0.2.2.2.2.2.2.2.2.2.2.2.2.2.2.2.2.2.2.2.2.2.2.2.2.2.2.1 e0.2.2.2.2.2.2.2.2.2.2.2.2.2.2.2.2.2.2.2.2.2.2.2.2.2.2.2.1 e0.2.2.2.2.2.2.2.2.2.2.2.2.2.2.2.2.2.2.2.2.2.2.2.2.2.2.2.2.1 e0.2.2.2.2.2.2.2.2.2.2.2.2.2.2.2.2.2.2.2.2.2.2.2.2.2.2.2.2.2.1 e0.2.2.2.2.2.2.2.2.2.2.2.2.2.2.2.2.2.2.2.2.2.2.2.2.2.2.2.2.2.2
noncomputable def q : Par := pick ne Goal
@[irreducible] noncomputable def w : World := q.1
@[irreducible] noncomputable def ws : List Nat := q.2.1
@[irreducible] noncomputable def qs : List Nat := q.2.2.1
@[irreducible] noncomputable def vs : List Value := q.2.2.2.1
@[irreducible] noncomputable def tl : Led := q.2.2.2.2.1
@[irreducible] noncomputable def news : Led := q.2.2.2.2.2.1
@[irreducible] noncomputable def cap : Nat := q.2.2.2.2.2.2.1
@[irreducible] noncomputable def l : Addr := q.2.2.2.2.2.2.2.1
@[irreducible] noncomputable def t0 : Tok := q.2.2.2.2.2.2.2.2.1
@[irreducible] noncomputable def p : Program := q.2.2.2.2.2.2.2.2.2.1
@[irreducible] noncomputable def loose : List PySem.Str := q.2.2.2.2.2.2.2.2.2.2.1
@[irreducible] noncomputable def mean : ExcName → Option Value := q.2.2.2.2.2.2.2.2.2.2.2.1
@[irreducible] noncomputable def mg : PySem.Str → Option Value := q.2.2.2.2.2.2.2.2.2.2.2.2.1
@[irreducible] noncomputable def mb : PySem.Str → Option Value := q.2.2.2.2.2.2.2.2.2.2.2.2.2.1
@[irreducible] noncomputable def dp : Nat := q.2.2.2.2.2.2.2.2.2.2.2.2.2.2.1
@[irreducible] noncomputable def un : Nat := q.2.2.2.2.2.2.2.2.2.2.2.2.2.2.2.1
@[irreducible] noncomputable def gd : Option (List Code) := q.2.2.2.2.2.2.2.2.2.2.2.2.2.2.2.2.1
@[irreducible] noncomputable def cn : PySem.Str := q.2.2.2.2.2.2.2.2.2.2.2.2.2.2.2.2.2.1
@[irreducible] noncomputable def cs : Scope := q.2.2.2.2.2.2.2.2.2.2.2.2.2.2.2.2.2.2.1
@[irreducible] noncomputable def a : Addr := q.2.2.2.2.2.2.2.2.2.2.2.2.2.2.2.2.2.2.2.1
@[irreducible] noncomputable def ccd : Value := q.2.2.2.2.2.2.2.2.2.2.2.2.2.2.2.2.2.2.2.2.1
@[irreducible] noncomputable def cl : List (PySem.Str × Addr) := q.2.2.2.2.2.2.2.2.2.2.2.2.2.2.2.2.2.2.2.2.2.1
@[irreducible] noncomputable def outer : List Env := q.2.2.2.2.2.2.2.2.2.2.2.2.2.2.2.2.2.2.2.2.2.2.1
@[irreducible] noncomputable def A₀ : Around := q.2.2.2.2.2.2.2.2.2.2.2.2.2.2.2.2.2.2.2.2.2.2.2.1
@[irreducible] noncomputable def base : Heap := q.2.2.2.2.2.2.2.2.2.2.2.2.2.2.2.2.2.2.2.2.2.2.2.2.1
@[irreducible] noncomputable def h₀ : Heap := q.2.2.2.2.2.2.2.2.2.2.2.2.2.2.2.2.2.2.2.2.2.2.2.2.2.1
@[irreducible] noncomputable def L : Addr := q.2.2.2.2.2.2.2.2.2.2.2.2.2.2.2.2.2.2.2.2.2.2.2.2.2.2.1
@[irreducible] noncomputable def m : PySem.Str → Option Value := q.2.2.2.2.2.2.2.2.2.2.2.2.2.2.2.2.2.2.2.2.2.2.2.2.2.2.2.1
@[irreducible] noncomputable def s : Shared := q.2.2.2.2.2.2.2.2.2.2.2.2.2.2.2.2.2.2.2.2.2.2.2.2.2.2.2.2.1
@[irreducible] noncomputable def Q : Value → Shared → Prop := q.2.2.2.2.2.2.2.2.2.2.2.2.2.2.2.2.2.2.2.2.2.2.2.2.2.2.2.2.2.1
@[irreducible] noncomputable def E : Value → Shared → Prop := q.2.2.2.2.2.2.2.2.2.2.2.2.2.2.2.2.2.2.2.2.2.2.2.2.2.2.2.2.2.2
noncomputable def BH (g₉ : Heap) (l₉ : Addr) (h₉ : Heap) (t₉ : Nat) : Prop := BodyH w 128 127 21 [(PySem.Str.ofString "name", .str (tx qs) t0), (PySem.Str.ofString "items", .ref l)] news p loose mean mg mb dp un gd cn cs a ccd cl outer base h₀ L m s Q E (rfl : stm 21 = _) g₉ l₉ h₉ t₉
noncomputable def ev : EV := pick evne (fun e => BH e.g e.l e.h e.t)
@[irreducible] noncomputable def g' : Heap := ev.g
@[irreducible] noncomputable def L' : Addr := ev.l
@[irreducible] noncomputable def h' : Heap := ev.h
@[irreducible] noncomputable def tk' : Nat := ev.t
theorem body (hv : F2 (ItmV tl) ws vs) (hl : (l, W.listOf (vs ++ [Value.none]).toArray cap) ∈ news) (htl : ∀ p ∈ tl, p ∈ news) (hs : ∀ c ∈ ws, c ∈ signs17) (hq : ∀ c ∈ qs, c ∈ signs17) (hlen : qs.length ≤ 100) (hwl : ws.length ≤ 30) (B : Below A₀ base outer h₀) (X : (K0 w.params).In h₀) (T : Top p loose mean mg mb h₀) (C1 : CodeHd h₀ 61 57) (C2 : CodeHd h₀ 170 168) (hk : cs.kind = .function) (hd : dp < 930) (hu : un < 8 * 930) (hret : ∀ r news' h' tk', Fr h₀ L h' m → News h₀ L h' news' → ((fun r n' => r = .bool (decide (ws.length ≤ qs.length) && fitsB ws qs) ∧ n' = news)) r news' → Q r { s with heap := h', toks := tk' }) : BH g' L' h' tk' := by
  have yc : Clo := .mk
  w_on
  intro F' N' B' X' T' C1' C2' lt'
  (try dsimp only)
  have hvl : vs.length = ws.length := hv.length.symm
  have hvl2 : vs.length ≤ 1000 := by omega
  have hsz : (vs ++ [Value.none]).toArray.size ≤ 100000 := by simp; omega
  have hsl1 : (slicePick (vs ++ [Value.none]).toArray (some ((vs.length : Nat) + 1 : Int)) none none).toList = [] := by
    have := slicePick_from' (vs ++ [Value.none]).toArray (vs.length + 1)
    rw [show ((vs.length : Nat) + 1 : Int) = ((vs.length + 1 : Nat) : Int) by omega, this]
    simp
  have hsl2 : (slicePick (vs ++ [Value.none]).toArray none (some ((vs.length : Nat) : Int)) none).toList = vs := by
    rw [slicePick_upto']
    simp
  have hnl : (tx qs).length ≤ 100 := by rw [tx_length]; exact hlen
  have hnl2 : (tx qs).length = qs.length := tx_length qs
  have hsl3 : Txt.slice (tx qs) (some (((tx qs).length : Nat) - 0 : Int)) none = tx [] := slice_from (pre := qs) (mid := []) (by simp) (by rw [hnl2]; simp)
  k_steps
  · refine Stop.go ?_
    refine fn_use (fits w ws qs vs tl _ 0 _ t0 hv ?hl1 ?htl1 hs hq hlen) (by assumption) (by assumption) X' (by assumption) T' C1' C2' (by rfl) (by k_extra "dep") (by k_extra "dep") ?_
    case hl1 => exact List.mem_cons_self
    case htl1 => exact fun p hp => List.mem_cons_of_mem _ (List.mem_cons_of_mem _ (htl p hp))
    intro r' n' h' tk' F' N'
    intro zz1
    obtain ⟨zz2, zz3⟩ := zz1
    revert zz2 zz3
    intro zz2 zz3
    subst zz2 zz3
    dsimp only
    k_steps
    · rename_i hft _ _ _ _ _
      refine Stop.go ?_
      refine fn_use (fits w [] [] [] tl _ 0 _ _ .nil ?hl2 ?htl2 (fun _ h => nomatch h) (fun _ h => nomatch h) (by simp)) (by assumption) (by assumption) X' (by assumption) T' C1' C2' (by rfl) (by k_extra "dep") (by k_extra "dep") ?_
      case hl2 => exact List.mem_cons_of_mem _ List.mem_cons_self
      case htl2 => exact fun p hp => List.mem_cons_of_mem _ (List.mem_cons_of_mem _ (htl p hp))
      intro r' n' h' tk' F' N'
      intro zz4
      obtain ⟨zz5, zz6⟩ := zz4
      revert zz5 zz6
      intro zz5 zz6
      subst zz5 zz6
      dsimp only
      k_steps
      rename News _ _ _ _ => NZ
      rename (vs.length : Int) ≤ _ => hle
      refine hret _ _ _ _ (by assumption) (fun p hp => NZ p (List.mem_cons_of_mem _ (List.mem_cons_of_mem _ hp))) ⟨congrArg Value.bool ?_, rfl⟩
      rw [hft, decide_eq_true (by omega)]; rfl
    · rename News _ _ _ _ => NZ
      rename fitsB ws qs = false => hff
      refine hret _ _ _ _ (by assumption) (fun p hp => NZ p (List.mem_cons_of_mem _ (List.mem_cons_of_mem _ hp))) ⟨congrArg Value.bool ?_, rfl⟩
      rw [hff, Bool.and_false]
  · rename News _ _ _ _ => NZ
    refine hret _ _ _ _ (by assumption) (fun p hp => NZ p (List.mem_cons_of_mem _ (by first | exact hp | exact List.mem_cons_of_mem _ hp))) ⟨congrArg Value.bool ?_, rfl⟩
    rename ¬ _ => hle
    rw [decide_eq_false hle, decide_eq_false (by omega)]; rfl
theorem main (hv : F2 (ItmV tl) ws vs) (hl : (l, W.listOf (vs ++ [Value.none]).toArray cap) ∈ news) (htl : ∀ p ∈ tl, p ∈ news) (hs : ∀ c ∈ ws, c ∈ signs17) (hq : ∀ c ∈ qs, c ∈ signs17) (hlen : qs.length ≤ 100) (hwl : ws.length ≤ 30) : FnG w 930 128 [.ref l, .str (tx qs) t0] news (fun r n' => r = .bool (decide (ws.length ≤ qs.length) && fitsB ws qs) ∧ n' = news) p loose mean mg mb dp un gd cn cs a ccd cl outer A₀ base h₀ L m s Q E := by
  intro B F X N T C1 C2 hk hd hu hret
  refine wpAny_call ?_
  with_unfolding_all refine' code_my (binds := [(PySem.Str.ofString "name", .str (tx qs) t0), (PySem.Str.ofString "items", .ref l)]) B F X N T C1 C2 ?kA ?kF ?kK ?ko ?est ?kcd ?kroom ?kbind ?kloc (fun g₁ l₁ h₁ t₁ _ => pick_all evne (P := fun e => BH e.g e.l e.h e.t) ?bd ⟨g₁, l₁, h₁, t₁⟩) ?kco ?kgen ?kkind ?kcell
  (case kA => exact rfl)
  (case kF => exact rfl)
  (case kK => exact hk)
  (case ko => k_is)
  (case est => exact rfl)
  (case kcd => k_is)
  (case kroom => (show dp < 1000; omega))
  (case kbind => exact BindsTo.of_eq rfl)
  (case kloc => exact locs rfl)
  (case kco => exact rfl)
  (case kgen => exact rfl)
  (case kkind => exact rfl)
  (case kcell => decide)
  (case bd => with_unfolding_all exact body hv hl htl hs hq hlen hwl B X T C1 C2 hk hd hu hret)
theorem goal_q : Goal q := by with_unfolding_all exact main
end Ktakes
theorem takes (w : World) (ws qs : List Nat) (vs : List Value) (tl news : Led) (cap : Nat) (l : Addr) (t0 : Tok) (hv : F2 (ItmV tl) ws vs) (hl : (l, W.listOf (vs ++ [Value.none]).toArray cap) ∈ news) (htl : ∀ p ∈ tl, p ∈ news) (hs : ∀ c ∈ ws, c ∈ signs17) (hq : ∀ c ∈ qs, c ∈ signs17) (hlen : qs.length ≤ 100) (hwl : ws.length ≤ 30) :
    Fn w 930 128 [.ref l, .str (tx qs) t0] news (fun r n' => r = .bool (decide (ws.length ≤ qs.length) && fitsB ws qs) ∧ n' = news) := by
  exact fun p loose mean mg mb dp un gd cn cs a ccd cl outer A₀ base h₀ L m s Q E => pick_all Ktakes.ne (P := Ktakes.Goal) Ktakes.goal_q ⟨w, ws, qs, vs, tl, news, cap, l, t0, p, loose, mean, mg, mb, dp, un, gd, cn, cs, a, ccd, cl, outer, A₀, base, h₀, L, m, s, Q, E⟩ hv hl htl hs hq hlen hwl
end S_FTk
section S_Ad
section
variable {prog : Program} {w : World} {A : Around} {s : Shared} {Q : Value → Shared → Prop} {E : Value → Shared → Prop}
theorem add_eq {x y z : PySem.Str} {t u : Tok} (e : x ++ y = z) (hz : z.length ≤ 1000000) (h : ∀ t' k, Q (.str z t') { s with toks := k }) : wpAny (model prog w) A (binaryOp .Add (.str x t) (.str y u)) Q E s := by
  have hl : x.length + y.length = z.length := by rw [← e, PySem.Str.length_append]
  exact KXadd.add (K := x.length) (L := y.length) (Nat.le_refl _) (Nat.le_refl _) (by omega) fun t' k _ => e ▸ h t' k
end
end S_Ad
example : True := by
  k_with "compareOp NotIn str ref" => ((refine' kdg_notin (knd := PySem.strKind _ _) ?k1 ?k2 ?k3 ?k4 (strKind_is _ _ _ _) _ ?k5 ?_; (case k1 => k_asm); (case k2 => k_mem); (case k3 => assumption); (case k4 => assumption); (case k5 => assumption); (try dsimp only [Bool.not_true, Bool.not_false])))
  trivial
example : True := by
  k_with "subscriptTail" => (((with_reducible show wpAny _ _ (subscriptTail _ _ (Value.ref _) (Value.str _ _)) _ _ _); refine' kda_item (knd := PySem.strKind _ _) ?k1 ?k2 ?k3 (strKind_is _ _ _ _) ?k4 ?_; (case k1 => k_asm); (case k2 => k_mem); (case k3 => assumption); (case k4 => assumption)))
  k_with "setItem ref str" => ((refine' kda_set (knd := PySem.strKind _ _) ?k1 ?k2 ?k3 ?k4 (strKind_is _ _ _ _) ?k5 ?_; (case k1 => k_asm); (case k2 => k_asm); (case k3 => k_updF); (case k4 => assumption); (case k5 => assumption); (walk_at "tI")))
  trivial
section G_FBe
example : True := by
  k_with "binaryOp Add str str" => ((refine' add_eq (by assumption) ?k1 ?_; (case k1 => first | assumption | (simp only [tx_length, List.length_append, List.length_cons, List.length_nil]; k_extra "om")); intro _ _))
  trivial
section S_FBe
theorem valueAt_stored {kvs : List (PySem.Str × Value)} {k : PySem.Str} (h : valueAt kvs k = none) (v : Value) (x : PySem.Str) : valueAt (stored kvs k v) x = if x = k then some v else valueAt kvs x := by
  rw [stored_absent h]
  unfold valueAt at *
  rw [List.find?_append]
  by_cases e : x = k
  · subst e
    rw [if_pos rfl, Option.map_eq_none_iff.mp h]
    simp
  · rw [if_neg e]
    cases List.find? (fun kv => decide (kv.1 = x)) kvs <;> simp [Ne.symm e]
theorem tx_inj {a b : List Nat} (h : tx a = tx b) : a = b := by
  have := congrArg (fun s : PySem.Str => s.cps.toList) h
  simpa [tx] using this
noncomputable def restL (ws qs : List Nat) : List Nat := if (decide ((ws ++ [46]).length ≤ qs.length) && fitsB (ws ++ [46]) qs) = true then qs.drop (ws.length + 1) else []
noncomputable def TakenOk (d : Addr) (kvs : List (PySem.Str × Value)) (kr : Led) : Prop :=
  (∀ p ∈ kr, d < p.1) ∧ ∀ ws v, valueAt kvs (tx ws) = some v → ∃ l vs tl cap, v = .ref l ∧ (l, W.listOf (vs ++ [Value.none]).toArray cap) ∈ kr ∧ F2 (ItmV tl) (ws ++ [46]) vs ∧ ∀ q ∈ tl, q ∈ kr
local macro_rules | `(tactic| walk_at "call ref") => `(tactic| ((with_reducible show wpAny _ _ (call (Value.ref 128) _) _ _ _); refine Stop.mk ?_))
local macro_rules | `(tactic| walk_at "call ref") => `(tactic| ((with_reducible show wpAny _ _ (call (Value.ref 133) _) _ _ _); refine Stop.mk ?_))
local macro_rules | `(tactic| walk_at "call ref") => `(tactic| ((with_reducible show wpAny _ _ (call (Value.ref 43) _) _ _ _); refine Stop.mk ?_))
local macro_rules | `(tactic| walk_at "call ref") => `(tactic| ((with_reducible show wpAny _ _ (call (Value.ref 114) _) _ _ _); refine Stop.mk ?_))
namespace Kbehind
abbrev Par : Type := (World) × (List Nat) × (List Nat) × (Tok) × (Tok) × (Array Value) × (Addr) × (Obj) × (List (PySem.Str × Value)) × (Led) × (Led) × (Program) × (List PySem.Str) × (ExcName → Option Value) × (PySem.Str → Option Value) × (PySem.Str → Option Value) × (Nat) × (Nat) × (Option (List Code)) × (PySem.Str) × (Scope) × (Addr) × (Value) × (List (PySem.Str × Addr)) × (List Env) × (Around) × (Heap) × (Heap) × (Addr) × (PySem.Str → Option Value) × (Shared) × (Value → Shared → Prop) × (Value → Shared → Prop)
theorem ne : Nonempty Par := ⟨by refine ⟨?_, ?_, ?_, ?_, ?_, ?_, ?_, ?_, ?_, ?_, ?_, ?_, ?_, ?_, ?_, ?_, ?_, ?_, ?_, ?_, ?_, ?_, ?_, ?_, ?_, ?_, ?_, ?_, ?_, ?_, ?_, ?_, ?_⟩ <;> first | exact W0 | exact default | exact {} | exact FD0⟩
noncomputable def Goal : Par → Prop := fun e0 => (fun (w : World) (ws : List Nat) (qs : List Nat) (t0 : Tok) (t1 : Tok) (ps : Array Value) (d : Addr) (o : Obj) (kvs : List (PySem.Str × Value)) (kr : Led) (rest : Led) (p : Program) (loose : List PySem.Str) (mean : ExcName → Option Value) (mg : PySem.Str → Option Value) (mb : PySem.Str → Option Value) (dp : Nat) (un : Nat) (gd : Option (List Code)) (cn : PySem.Str) (cs : Scope) (a : Addr) (ccd : Value) (cl : List (PySem.Str × Addr)) (outer : List Env) (A₀ : Around) (base : Heap) (h₀ : Heap) (L : Addr) (m : PySem.Str → Option Value) (s : Shared) (Q : Value → Shared → Prop) (E : Value → Shared → Prop) => (ok : TabOk ps) → (hd57 : @LT.lt Nat _ 57 d) → (lo : (d == sysModules) = false) → (hdT : o.IsDictOf (PySem.strKind P0 w) kvs) → (hsz : kvs.length ≤ sizeLine) → (hkT : TakenOk d kvs kr) → (hrest : ∀ p ∈ rest, p.1 ≠ 57 ∧ p.1 ≠ d) → (hs : ∀ c ∈ ws, c ∈ signs17) → (hq : ∀ c ∈ qs, c ∈ signs17) → (hlen : qs.length ≤ 100) → (hwl : ws.length ≤ 29) → FnG w 920 140 [.ref d, .str (tx ws) t0, .str (tx qs) t1] ((57, tabObj ps) :: (d, o) :: (kr ++ rest)) (fun r n' => (∃ t, r = .str (tx (restL ws qs)) t) ∧ ∃ ps' o' kvs' kr', TabOk ps' ∧ o'.IsDictOf (PySem.strKind P0 w) kvs' ∧ kvs'.length ≤ kvs.length + 1 ∧ TakenOk d kvs' kr' ∧ (∀ p ∈ kr', p ∈ kr ∨ ∀ q ∈ rest, q.1 < p.1) ∧ n' = (57, tabObj ps') :: (d, o') :: (kr' ++ rest)) p loose mean mg mb dp un gd cn cs a ccd cl outer A₀ base h₀ L m s Q E) e0.1 e0.2.1 e0.2.2.1 e0.2.2.2.1 e0.2.2.2.2.1 e0.2.2.2.2.2.1 e0.2.2.2.2.2.2.1 e0.2.2.2.2.2.2.2.1 e0.2.2.2.2.2.2.2.2.1 e0.2.2.2.2.2.2.2.2.2.1 e0.2.2.2.2.2.2.2.2.2.2.1 e0.2.2.2.2.2.2.2.2.2.2.2.1 e0.2.2.2.2.2.2.2.2.2.2.2.2.1 e0.2.2.2.2.2.2.2.2.2.2.2.2.2.1 e0.2.2.2.2.2.2.2.2.2.2.2.2.2.2.1 e0.2.2.2.2.2.2.2.2.2.2.2.2.2.2.2.1 e0.2.2.2.2.2.2.2.2.2.2.2.2.2.2.2.2.1 e0.2.2.2.2.2.2.2.2.2.2.2.2.2.2.2.2.2.1 e0.2.2.2.2.2.2.2.2.2.2.2.2.2.2.2.2.2.2.1 e0.2.2.2.2.2.2.2.2.2.2.2.2.2.2.2.2.2.2.2.1 e0.2.2.2.2.2.2.2.2.2.2.2.2.2.2.2.2.2.2.2.2.1 e0.2.2.2.2.2.2.2.2.2.2.2.2.2.2.2.2.2.2.2.2.2.1 e0.2.2.2.2.2.2.2.2.2.2.2.2.2.2.2.2.2.2.2.2.2.2.1 e0.2.2.2.2.2.2.2.2.2.2.2.2.2.2.2.2.2.2.2.2.2.2.2.1 e0.2.2.2.2.2.2.2.2.2.2.2.2.2.2.2.2.2.2.2.2.2.2.2.2.1 e0.2.2.2.2.2.2.2.2.2.2.2.2.2.2.2.2.2.2.2.2.2.2.2.2.2.1 e0.2.2.2.2.2.2.2.2.2.2.2.2.2.2.2.2.2.2.2.2.2.2.2.2.2.2.1 e0.2.2.2.2.2.2.2.2.2.2.2.2.2.2.2.2.2.2.2.2.2.2.2.2.2.2.2.1 e0.2.2.2.2.2.2.2.2.2.2.2.2.2.2.2.2.2.2.2.2.2.2.2.2.2.2.2.2.1 e0.2.2.2.2.2.2.2.2.2.2.2.2.2.2.2.2.2.2.2.2.2.2.2.2.2.2.2.2.2.1 e0.2.2.2.2.2.2.2.2.2.2.2.2.2.2.2.2.2.2.2.2.2.2.2.2.2.2.2.2.2.2.1 e0.2.2.2.2.2.2.2.2.2.2.2.2.2.2.2.2.2.2.2.2.2.2.2.2.2.2.2.2.2.2.2.1 e0.2.2.2.2.2.2.2.2.2.2.2.2.2.2.2.2.2.2.2.2.2.2.2.2.2.2.2.2.2.2.2.2
noncomputable def q : Par := pick ne Goal
@[irreducible] noncomputable def w : World := q.1
@[irreducible] noncomputable def ws : List Nat := q.2.1
@[irreducible] noncomputable def qs : List Nat := q.2.2.1
@[irreducible] noncomputable def t0 : Tok := q.2.2.2.1
@[irreducible] noncomputable def t1 : Tok := q.2.2.2.2.1
@[irreducible] noncomputable def ps : Array Value := q.2.2.2.2.2.1
@[irreducible] noncomputable def d : Addr := q.2.2.2.2.2.2.1
@[irreducible] noncomputable def o : Obj := q.2.2.2.2.2.2.2.1
@[irreducible] noncomputable def kvs : List (PySem.Str × Value) := q.2.2.2.2.2.2.2.2.1
@[irreducible] noncomputable def kr : Led := q.2.2.2.2.2.2.2.2.2.1
@[irreducible] noncomputable def rest : Led := q.2.2.2.2.2.2.2.2.2.2.1
@[irreducible] noncomputable def p : Program := q.2.2.2.2.2.2.2.2.2.2.2.1
@[irreducible] noncomputable def loose : List PySem.Str := q.2.2.2.2.2.2.2.2.2.2.2.2.1
@[irreducible] noncomputable def mean : ExcName → Option Value := q.2.2.2.2.2.2.2.2.2.2.2.2.2.1
@[irreducible] noncomputable def mg : PySem.Str → Option Value := q.2.2.2.2.2.2.2.2.2.2.2.2.2.2.1
@[irreducible] noncomputable def mb : PySem.Str → Option Value := q.2.2.2.2.2.2.2.2.2.2.2.2.2.2.2.1
@[irreducible] noncomputable def dp : Nat := q.2.2.2.2.2.2.2.2.2.2.2.2.2.2.2.2.1
@[irreducible] noncomputable def un : Nat := q.2.2.2.2.2.2.2.2.2.2.2.2.2.2.2.2.2.1
@[irreducible] noncomputable def gd : Option (List Code) := q.2.2.2.2.2.2.2.2.2.2.2.2.2.2.2.2.2.2.1
@[irreducible] noncomputable def cn : PySem.Str := q.2.2.2.2.2.2.2.2.2.2.2.2.2.2.2.2.2.2.2.1
@[irreducible] noncomputable def cs : Scope := q.2.2.2.2.2.2.2.2.2.2.2.2.2.2.2.2.2.2.2.2.1
@[irreducible] noncomputable def a : Addr := q.2.2.2.2.2.2.2.2.2.2.2.2.2.2.2.2.2.2.2.2.2.1
@[irreducible] noncomputable def ccd : Value := q.2.2.2.2.2.2.2.2.2.2.2.2.2.2.2.2.2.2.2.2.2.2.1
@[irreducible] noncomputable def cl : List (PySem.Str × Addr) := q.2.2.2.2.2.2.2.2.2.2.2.2.2.2.2.2.2.2.2.2.2.2.2.1
@[irreducible] noncomputable def outer : List Env := q.2.2.2.2.2.2.2.2.2.2.2.2.2.2.2.2.2.2.2.2.2.2.2.2.1
@[irreducible] noncomputable def A₀ : Around := q.2.2.2.2.2.2.2.2.2.2.2.2.2.2.2.2.2.2.2.2.2.2.2.2.2.1
@[irreducible] noncomputable def base : Heap := q.2.2.2.2.2.2.2.2.2.2.2.2.2.2.2.2.2.2.2.2.2.2.2.2.2.2.1
@[irreducible] noncomputable def h₀ : Heap := q.2.2.2.2.2.2.2.2.2.2.2.2.2.2.2.2.2.2.2.2.2.2.2.2.2.2.2.1
@[irreducible] noncomputable def L : Addr := q.2.2.2.2.2.2.2.2.2.2.2.2.2.2.2.2.2.2.2.2.2.2.2.2.2.2.2.2.1
@[irreducible] noncomputable def m : PySem.Str → Option Value := q.2.2.2.2.2.2.2.2.2.2.2.2.2.2.2.2.2.2.2.2.2.2.2.2.2.2.2.2.2.1
@[irreducible] noncomputable def s : Shared := q.2.2.2.2.2.2.2.2.2.2.2.2.2.2.2.2.2.2.2.2.2.2.2.2.2.2.2.2.2.2.1
@[irreducible] noncomputable def Q : Value → Shared → Prop := q.2.2.2.2.2.2.2.2.2.2.2.2.2.2.2.2.2.2.2.2.2.2.2.2.2.2.2.2.2.2.2.1
@[irreducible] noncomputable def E : Value → Shared → Prop := q.2.2.2.2.2.2.2.2.2.2.2.2.2.2.2.2.2.2.2.2.2.2.2.2.2.2.2.2.2.2.2.2
noncomputable def BH (g₉ : Heap) (l₉ : Addr) (h₉ : Heap) (t₉ : Nat) : Prop := BodyH w 140 139 23 [(PySem.Str.ofString "other", .str (tx qs) t1), (PySem.Str.ofString "one", .str (tx ws) t0), (PySem.Str.ofString "known", .ref d)] ((57, tabObj ps) :: (d, o) :: (kr ++ rest)) p loose mean mg mb dp un gd cn cs a ccd cl outer base h₀ L m s Q E (rfl : stm 23 = _) g₉ l₉ h₉ t₉
noncomputable def ev : EV := pick evne (fun e => BH e.g e.l e.h e.t)
@[irreducible] noncomputable def g' : Heap := ev.g
@[irreducible] noncomputable def L' : Addr := ev.l
@[irreducible] noncomputable def h' : Heap := ev.h
@[irreducible] noncomputable def tk' : Nat := ev.t
theorem body (ok : TabOk ps) (hd57 : @LT.lt Nat _ 57 d) (lo : (d == sysModules) = false) (hdT : o.IsDictOf (PySem.strKind P0 w) kvs) (hsz : kvs.length ≤ sizeLine) (hkT : TakenOk d kvs kr) (hrest : ∀ p ∈ rest, p.1 ≠ 57 ∧ p.1 ≠ d) (hs : ∀ c ∈ ws, c ∈ signs17) (hq : ∀ c ∈ qs, c ∈ signs17) (hlen : qs.length ≤ 100) (hwl : ws.length ≤ 29) (B : Below A₀ base outer h₀) (X : (K0 w.params).In h₀) (T : Top p loose mean mg mb h₀) (C1 : CodeHd h₀ 61 57) (C2 : CodeHd h₀ 170 168) (hk : cs.kind = .function) (hd : dp < 920) (hu : un < 8 * 920) (hret : ∀ r news' h' tk', Fr h₀ L h' m → News h₀ L h' news' → ((fun r n' => (∃ t, r = .str (tx (restL ws qs)) t) ∧ ∃ ps' o' kvs' kr', TabOk ps' ∧ o'.IsDictOf (PySem.strKind P0 w) kvs' ∧ kvs'.length ≤ kvs.length + 1 ∧ TakenOk d kvs' kr' ∧ (∀ p ∈ kr', p ∈ kr ∨ ∀ q ∈ rest, q.1 < p.1) ∧ n' = (57, tabObj ps') :: (d, o') :: (kr' ++ rest))) r news' → Q r { s with heap := h', toks := tk' }) : BH g' L' h' tk' := by
  have yc : Clo := .mk
  w_on
  intro F' N' B' X' T' C1' C2' lt'
  (try dsimp only)
  have hwt : (tx ws).length = ws.length := tx_length ws
  have hqt : (tx qs).length = qs.length := tx_length qs
  have hqs1 : (tx qs).length ≤ 100 := by rw [hqt]; exact hlen
  have hws1 : (tx ws).length ≤ 100 := by rw [hwt]; omega
  obtain ⟨z, hsl, hz⟩ : ∃ z, Txt.slice (tx qs) (some (((tx ws).length : Nat) + 1 : Int)) none = z ∧ ((decide ((ws ++ [46]).length ≤ qs.length) && fitsB (ws ++ [46]) qs) = true → z = tx (restL ws qs)) := by
    refine ⟨_, rfl, fun hc => ?_⟩
    have hle : (ws ++ [46]).length ≤ qs.length := of_decide_eq_true (Bool.and_eq_true_iff.mp hc).1
    rw [restL, if_pos hc]
    simp only [List.length_append, List.length_singleton] at hle
    exact slice_from (List.take_append_drop (ws.length + 1) qs).symm (by rw [hwt, List.length_take, Nat.min_eq_left hle]; simp)
  revert z hsl hz
  intro z hsl hz
  have hs2 : ∀ c ∈ ws ++ [46], c ∈ signs17 := fun c hc => (List.mem_append.mp hc).elim (hs c) (fun h => by rw [List.mem_singleton.mp h]; decide)
  have hpat : tx (ws.flatMap wr) ++ PySem.Str.ofString ".*" = tx (patL (ws ++ [46])) := by
    unfold patL
    show tx _ ++ tx [46, 42] = _
    rw [tx_append]; simp [wr]
  have hpat1 : (tx (patL (ws ++ [46]))).length ≤ 1000000 := by rw [tx_length]; exact Nat.le_trans (patL_len (by simp; omega)) (by omega)
  rcases (Option.eq_none_or_eq_some (valueAt kvs (tx ws))).symm with hvz | hv
  · obtain ⟨v, hv⟩ := hvz
    revert v hv
    intro v hv
    have hv1 : (valueAt kvs (tx ws)).isSome = true := by rw [hv]; rfl
    obtain ⟨l, vs, tl, cap, zz1, hl, hF, htl⟩ := hkT.2 _ _ hv
    revert l vs tl cap zz1 hl hF htl
    intro l vs tl cap zz1 hl hF htl
    subst zz1
    k_steps
    refine Stop.go ?_
    refine fn_use (takes w (ws ++ [46]) qs vs tl ((57, tabObj ps) :: (d, o) :: (kr ++ rest)) cap l _ hF ?hl ?htl ?hs hq hlen ?hwl) (by assumption) (by assumption) X' (by assumption) T' C1' C2' (by rfl) (by k_extra "dep") (by k_extra "dep") ?_
    case hl => exact List.mem_cons_of_mem _ (List.mem_cons_of_mem _ (List.mem_append_left _ hl))
    case htl => exact fun q hq => List.mem_cons_of_mem _ (List.mem_cons_of_mem _ (List.mem_append_left _ (htl q hq)))
    case hs => exact fun c hc => (List.mem_append.mp hc).elim (hs c) (fun h => by rw [List.mem_singleton.mp h]; decide)
    case hwl => simp; omega
    intro r' n' h' tk' F' N'
    intro zz2
    obtain ⟨zz3, zz4⟩ := zz2
    revert zz3 zz4
    intro zz3 zz4
    subst zz3 zz4
    dsimp only
    k_steps
    · exact hret _ _ _ _ (by assumption) (by assumption) ⟨⟨_, by rw [hz (by assumption)]⟩, ps, o, kvs, kr, ok, hdT, Nat.le_succ _, hkT, fun _ h => .inl h, rfl⟩
    · exact hret _ _ _ _ (by assumption) (by assumption) ⟨⟨_, by rw [restL, if_neg (by rw [Bool.not_eq_true]; assumption)]; rfl⟩, ps, o, kvs, kr, ok, hdT, Nat.le_succ _, hkT, fun _ h => .inl h, rfl⟩
  · skip
    have hv1 : (valueAt kvs (tx ws)).isSome = false := by rw [hv]; rfl
    k_steps
    refine Stop.go ?_
    refine fn_use (written w ws t0 _ (by omega) hs) (by assumption) (by assumption) X' (by assumption) T' C1' C2' (by rfl) (by k_extra "dep") (by k_extra "dep") ?_
    intro r' n' h' tk' F' N'
    intro zz5
    obtain ⟨zz6, zz7⟩ := zz5
    revert zz6 zz7
    intro zz6 zz7
    subst zz7
    obtain ⟨zz8, zz9⟩ := zz6
    revert zz8 zz9
    intro _ zz9
    subst zz9
    dsimp only
    k_steps
    refine Stop.go ?_
    have hne : ws ++ [46] ≠ [] := by simp
    refine fn_use (translate w (ws ++ [46]) _ ((d, o) :: (kr ++ rest)) ?hx1 ?hx2 hne ps ok ?hx3) (by assumption) (by assumption) X' (by assumption) T' C1' C2' (by rfl) (by k_extra "dep") (by k_extra "dep") ?_
    case hx1 => simp; omega
    case hx2 => exact hs2
    case hx3 => exact List.forall_mem_cons.mpr ⟨Nat.ne_of_gt hd57, fun p hp => (List.mem_append.mp hp).elim (fun h => Nat.ne_of_gt (Nat.lt_trans hd57 (hkT.1 p h))) (fun h => (hrest p h).1)⟩
    intro r' n' h' tk' F' N'
    intro zz10
    obtain ⟨zz11, ps2, ok2, zz12⟩ := zz10
    revert zz11 ps2 ok2 zz12
    intro zz11 ps2 ok2 zz12
    subst zz12
    obtain ⟨zz13, zz14⟩ := zz11
    revert zz13 zz14
    intro _ zz14
    subst zz14
    dsimp only
    k_steps
    refine Stop.go ?_
    refine fn_use (read w (ws ++ [46]) _ _ ?hx4 hs2) (by assumption) (by assumption) X' (by assumption) T' C1' C2' (by rfl) (by k_extra "dep") (by k_extra "dep") ?_
    case hx4 => simp; omega
    intro r' n' h' tk' F' N'
    intro zz15
    obtain ⟨l, vs, tl, cap, zz16, hF, zz17, hl1, hl2⟩ := zz15
    revert l vs tl cap zz16 hF zz17 hl1 hl2
    intro l vs tl cap zz16 hF zz17 hl1 hl2
    subst zz16 zz17
    dsimp only
    replace N' : News _ _ _ ((57, tabObj ps2) :: (d, o) :: (((l, W.listOf (vs ++ [Value.none]).toArray cap) :: (tl ++ kr)) ++ rest)) := fun p hp => N' p (by simpa [or_left_comm, or_assoc] using hp)
    have hdl : d < l := hl1 (d, o) (List.mem_cons_of_mem _ List.mem_cons_self)
    have hkr1 : ∀ p ∈ ((l, W.listOf (vs ++ [Value.none]).toArray cap) :: (tl ++ kr)), d < p.1 := List.forall_mem_cons.mpr ⟨hdl, fun p hp => (List.mem_append.mp hp).elim (fun h => Nat.lt_trans hdl (hl2 p h)) (hkT.1 p)⟩
    have hne1 : ∀ p ∈ ((l, W.listOf (vs ++ [Value.none]).toArray cap) :: (tl ++ kr)) ++ rest, p.1 ≠ d := fun p hp => (List.mem_append.mp hp).elim (fun h => Nat.ne_of_gt (hkr1 p h)) (fun h => (hrest p h).2)
    have hst : stored kvs (tx ws) (Value.ref l) = kvs ++ [(tx ws, Value.ref l)] := stored_absent hv _
    have hv2 : valueAt (stored kvs (tx ws) (Value.ref l)) (tx ws) = some (Value.ref l) := by rw [valueAt_stored hv, if_pos rfl]
    have hkT2 : TakenOk d (stored kvs (tx ws) (Value.ref l)) ((l, W.listOf (vs ++ [Value.none]).toArray cap) :: (tl ++ kr)) := by
      refine ⟨hkr1, fun xs v hx => ?_⟩
      rw [valueAt_stored hv] at hx
      by_cases hxs : tx xs = tx ws
      · rw [if_pos hxs] at hx
        cases hx
        have hxe : xs = ws := tx_inj hxs
        subst hxe
        exact ⟨l, vs, tl, cap, rfl, List.mem_cons_self, hF, fun q hq => List.mem_cons_of_mem _ (List.mem_append_left _ hq)⟩
      · rw [if_neg hxs] at hx
        obtain ⟨l2, vs2, tl2, cap2, e1, e2, e3, e4⟩ := hkT.2 _ _ hx
        revert l2 vs2 tl2 cap2 e1 e2 e3 e4
        intro l2 vs2 tl2 cap2 e1 e2 e3 e4
        exact ⟨l2, vs2, tl2, cap2, e1, List.mem_cons_of_mem _ (List.mem_append_right _ e2), e3, fun q hq => List.mem_cons_of_mem _ (List.mem_append_right _ (e4 q hq))⟩
    have hsz2 : (stored kvs (tx ws) (Value.ref l)).length ≤ kvs.length + 1 := stored_length_le _ _ _
    have hkr2 : ∀ p ∈ ((l, W.listOf (vs ++ [Value.none]).toArray cap) :: (tl ++ kr)), p ∈ kr ∨ ∀ q ∈ rest, q.1 < p.1 := by
      have hrl : ∀ q ∈ rest, q.1 < l := fun q hq => hl1 q (List.mem_cons_of_mem _ (List.mem_cons_of_mem _ (List.mem_append_right _ hq)))
      exact List.forall_mem_cons.mpr ⟨.inr hrl, fun p hp => (List.mem_append.mp hp).elim (fun h => .inr fun q hq => Nat.lt_trans (hrl q hq) (hl2 p h)) .inl⟩
    generalize hkv : stored kvs (tx ws) (Value.ref l) = kvs2 at *
    generalize hkr : (l, W.listOf (vs ++ [Value.none]).toArray cap) :: (tl ++ kr) = kr2 at *
    k_steps
    rename_i o2 _ _ hd2
    rw [hkv] at hd2
    have hl3 : (l, W.listOf (vs ++ [Value.none]).toArray cap) ∈ kr2 := by rw [← hkr]; exact List.mem_cons_self
    have htl3 : ∀ p ∈ tl, p ∈ kr2 := fun p hp => by rw [← hkr]; exact List.mem_cons_of_mem _ (List.mem_append_left _ hp)
    k_steps
    refine Stop.go ?_
    refine fn_use (takes w (ws ++ [46]) qs vs tl ((57, tabObj ps2) :: (d, o2) :: (kr2 ++ rest)) cap l _ hF ?hl ?htl hs2 hq hlen ?hwl) (by assumption) (by assumption) X' (by assumption) T' C1' C2' (by rfl) (by k_extra "dep") (by k_extra "dep") ?_
    case hl => exact List.mem_cons_of_mem _ (List.mem_cons_of_mem _ (List.mem_append_left _ hl3))
    case htl => exact fun q hq => List.mem_cons_of_mem _ (List.mem_cons_of_mem _ (List.mem_append_left _ (htl3 q hq)))
    case hwl => simp; omega
    intro r' n' h' tk' F' N'
    intro zz18
    obtain ⟨zz19, zz20⟩ := zz18
    revert zz19 zz20
    intro zz19 zz20
    subst zz19 zz20
    dsimp only
    k_steps
    · exact hret _ _ _ _ (by assumption) (by assumption) ⟨⟨_, by rw [hz (by assumption)]⟩, ps2, o2, kvs2, kr2, ok2, hd2, hsz2, hkT2, hkr2, rfl⟩
    · exact hret _ _ _ _ (by assumption) (by assumption) ⟨⟨_, by rw [restL, if_neg (by rw [Bool.not_eq_true]; assumption)]; rfl⟩, ps2, o2, kvs2, kr2, ok2, hd2, hsz2, hkT2, hkr2, rfl⟩
theorem main (ok : TabOk ps) (hd57 : @LT.lt Nat _ 57 d) (lo : (d == sysModules) = false) (hdT : o.IsDictOf (PySem.strKind P0 w) kvs) (hsz : kvs.length ≤ sizeLine) (hkT : TakenOk d kvs kr) (hrest : ∀ p ∈ rest, p.1 ≠ 57 ∧ p.1 ≠ d) (hs : ∀ c ∈ ws, c ∈ signs17) (hq : ∀ c ∈ qs, c ∈ signs17) (hlen : qs.length ≤ 100) (hwl : ws.length ≤ 29) : FnG w 920 140 [.ref d, .str (tx ws) t0, .str (tx qs) t1] ((57, tabObj ps) :: (d, o) :: (kr ++ rest)) (fun r n' => (∃ t, r = .str (tx (restL ws qs)) t) ∧ ∃ ps' o' kvs' kr', TabOk ps' ∧ o'.IsDictOf (PySem.strKind P0 w) kvs' ∧ kvs'.length ≤ kvs.length + 1 ∧ TakenOk d kvs' kr' ∧ (∀ p ∈ kr', p ∈ kr ∨ ∀ q ∈ rest, q.1 < p.1) ∧ n' = (57, tabObj ps') :: (d, o') :: (kr' ++ rest)) p loose mean mg mb dp un gd cn cs a ccd cl outer A₀ base h₀ L m s Q E := by
  intro B F X N T C1 C2 hk hd hu hret
  refine wpAny_call ?_
  with_unfolding_all refine' code_my (binds := [(PySem.Str.ofString "other", .str (tx qs) t1), (PySem.Str.ofString "one", .str (tx ws) t0), (PySem.Str.ofString "known", .ref d)]) B F X N T C1 C2 ?kA ?kF ?kK ?ko ?est ?kcd ?kroom ?kbind ?kloc (fun g₁ l₁ h₁ t₁ _ => pick_all evne (P := fun e => BH e.g e.l e.h e.t) ?bd ⟨g₁, l₁, h₁, t₁⟩) ?kco ?kgen ?kkind ?kcell
  (case kA => exact rfl)
  (case kF => exact rfl)
  (case kK => exact hk)
  (case ko => k_is)
  (case est => exact rfl)
  (case kcd => k_is)
  (case kroom => (show dp < 1000; omega))
  (case kbind => exact BindsTo.of_eq rfl)
  (case kloc => exact locs rfl)
  (case kco => exact rfl)
  (case kgen => exact rfl)
  (case kkind => exact rfl)
  (case kcell => decide)
  (case bd => with_unfolding_all exact body ok hd57 lo hdT hsz hkT hrest hs hq hlen hwl B X T C1 C2 hk hd hu hret)
theorem goal_q : Goal q := by with_unfolding_all exact main
end Kbehind
theorem behind (w : World) (ws qs : List Nat) (t0 t1 : Tok) (ps : Array Value) (ok : TabOk ps) (d : Addr) (o : Obj) (kvs : List (PySem.Str × Value)) (kr rest : Led)
    (hd57 : @LT.lt Nat _ 57 d) (lo : (d == sysModules) = false) (hdT : o.IsDictOf (PySem.strKind P0 w) kvs) (hsz : kvs.length ≤ sizeLine) (hkT : TakenOk d kvs kr) (hrest : ∀ p ∈ rest, p.1 ≠ 57 ∧ p.1 ≠ d)
    (hs : ∀ c ∈ ws, c ∈ signs17) (hq : ∀ c ∈ qs, c ∈ signs17) (hlen : qs.length ≤ 100) (hwl : ws.length ≤ 29) :
    Fn w 920 140 [.ref d, .str (tx ws) t0, .str (tx qs) t1] ((57, tabObj ps) :: (d, o) :: (kr ++ rest)) (fun r n' => (∃ t, r = .str (tx (restL ws qs)) t) ∧ ∃ ps' o' kvs' kr', TabOk ps' ∧ o'.IsDictOf (PySem.strKind P0 w) kvs' ∧ kvs'.length ≤ kvs.length + 1 ∧ TakenOk d kvs' kr' ∧ (∀ p ∈ kr', p ∈ kr ∨ ∀ q ∈ rest, q.1 < p.1) ∧ n' = (57, tabObj ps') :: (d, o') :: (kr' ++ rest)) := by
  exact fun p loose mean mg mb dp un gd cn cs a ccd cl outer A₀ base h₀ L m s Q E => pick_all Kbehind.ne (P := Kbehind.Goal) Kbehind.goal_q ⟨w, ws, qs, t0, t1, ps, d, o, kvs, kr, rest, p, loose, mean, mg, mb, dp, un, gd, cn, cs, a, ccd, cl, outer, A₀, base, h₀, L, m, s, Q, E⟩ ok hd57 lo hdT hsz hkT hrest hs hq hlen hwl
end S_FBe
section S_FAh
noncomputable def enc : List Nat → List Nat
  | [] => []
  | c :: r => c :: r.flatMap fun a => [46, a]
noncomputable def Wd (ws : List Nat) : Prop := ∃ l, l ≠ [] ∧ (∀ c ∈ l, c ≠ 46) ∧ ws = enc l
theorem enc_inj2 : ∀ {r r' : List Nat} {c c' : Nat} {q q' : List Nat}, (∀ a ∈ r, a ≠ 46) → (∀ a ∈ r', a ≠ 46) → (c :: r.flatMap fun a => [46, a]) ++ 46 :: 46 :: q = (c' :: r'.flatMap fun a => [46, a]) ++ 46 :: 46 :: q' → c = c' ∧ r = r' ∧ q = q'
  | [], [], _, _, _, _, _, _, h => by simp at h; exact ⟨h.1, rfl, h.2⟩
  | [], d :: r', _, _, _, _, _, h2, h => by simp at h; exact absurd h.2.1.symm (h2 d List.mem_cons_self)
  | d :: r, [], _, _, _, _, h1, _, h => by simp at h; exact absurd h.2.1 (h1 d List.mem_cons_self)
  | d :: r, e :: r', c, c', q, q', h1, h2, h => by
    simp only [List.flatMap_cons, List.cons_append, List.nil_append, List.cons.injEq, true_and] at h
    have ih := enc_inj2 (r := r) (r' := r') (c := d) (c' := e) (q := q) (q' := q') (fun a ha => h1 a (List.mem_cons_of_mem _ ha)) (fun a ha => h2 a (List.mem_cons_of_mem _ ha)) (by
      rw [List.cons_append, List.cons_append, h.2.1, h.2.2])
    exact ⟨h.1, by rw [ih.1, ih.2.1], ih.2.2⟩
theorem key_inj {ws qs ws' qs' : List Nat} (a : Wd ws) (a' : Wd ws') (h : ws ++ 46 :: 46 :: qs = ws' ++ 46 :: 46 :: qs') : ws = ws' ∧ qs = qs' := by
  obtain ⟨l, h1, h2, rfl⟩ := a
  obtain ⟨l', h1', h2', rfl⟩ := a'
  cases l with
  | nil => exact absurd rfl h1
  | cons c r =>
    cases l' with
    | nil => exact absurd rfl h1'
    | cons c' r' =>
      obtain ⟨e1, e2, e3⟩ := enc_inj2 (fun a ha => h2 a (List.mem_cons_of_mem _ ha)) (fun a ha => h2' a (List.mem_cons_of_mem _ ha)) h
      subst e1 e2 e3
      exact ⟨rfl, rfl⟩
noncomputable def aheadB (ws qs : List Nat) : Bool := Txt.endswith (tx qs) (tx (46 :: ws))
noncomputable def aheadL (ws qs : List Nat) : List Nat := if aheadB ws qs = true then qs.take (qs.length - ws.length - 1) else []
noncomputable def AskedOk (kvs : List (PySem.Str × Value)) : Prop := ∀ k v, valueAt kvs k = some v → ∃ ws qs, Wd ws ∧ k = tx (ws ++ 46 :: 46 :: qs) ∧ v = .bool (aheadB ws qs)
theorem low_map : ∀ c ∈ signs17, c < 128 ∧ lo1 c = c ∧ lo1 (up1 c) = c ∧ up1 c < 128 ∧ Sre.isDigit c = false := by decide +kernel
theorem lower_tx {l : List Nat} (h : ∀ c ∈ l, c ∈ signs17) : Txt.lower (tx l) = tx l := by
  rw [lower_ascii (by simpa [tx] using fun c hc => (low_map c (h c hc)).1)]
  unfold tx
  congr 1
  apply Array.ext'
  simp only [Array.toList_map]
  exact (List.map_congr_left fun c hc => (low_map c (h c hc)).2.1).trans (List.map_id _)
theorem lower_upper {l : List Nat} (h : ∀ c ∈ l, c ∈ signs17) : Txt.lower (Txt.upper (tx l)) = tx l := by
  rw [upper_ascii (by simpa [tx] using fun c hc => (low_map c (h c hc)).1)]
  rw [lower_ascii (by simpa [tx] using fun c hc => (low_map c (h c hc)).2.2.2.1)]
  unfold tx
  congr 1
  apply Array.ext'
  simp only [Array.toList_map, List.map_map]
  exact (List.map_congr_left fun c hc => (low_map c (h c hc)).2.2.1).trans (List.map_id _)
theorem low_tx {l : List Nat} (h : ∀ c ∈ l, c ∈ signs17) (hl : l.length ≤ 3000) : Low (tx l) := by
  refine ⟨by rw [tx_length]; exact hl, lower_tx h, fun i => ?_⟩
  unfold tx
  simp only [Array.getD_eq_getD_getElem?, List.getElem?_toArray]
  cases e : l[i]? with
  | none => rfl
  | some c => exact (low_map c (h c (List.mem_of_getElem? e))).2.2.2.2
theorem upper_len {l : List Nat} (h : ∀ c ∈ l, c ∈ signs17) : (Txt.upper (tx l)).length = l.length := by
  rw [upper_ascii (by simpa [tx] using fun c hc => (low_map c (h c hc)).1)]
  simp [tx, PySem.Str.length]
theorem starts_dot (ws : List Nat) : Txt.startswith (tx (46 :: ws)) (PySem.Str.ofString ".") = true := by
  unfold Txt.startswith
  rw [PySem.StrLaws.subAt_eq, Bool.and_eq_true_iff]
  refine ⟨decide_eq_true ?_, ?_⟩
  · rw [tx_length]
    show 0 + 1 ≤ ws.length + 1
    omega
  · show (List.take 1 (List.drop 0 (46 :: ws)) == [46]) = true
    simp
theorem aheadB_iff {ws qs : List Nat} : aheadB ws qs = true ↔ ∃ pre, qs = pre ++ 46 :: ws := by
  unfold aheadB Txt.endswith
  rw [PySem.StrLaws.subAt_eq, Bool.and_eq_true_iff, tx_length, tx_length, decide_eq_true_iff, beq_iff_eq]
  show 0 + (ws.length + 1) ≤ qs.length ∧ List.take (ws.length + 1) (List.drop (qs.length - (ws.length + 1)) qs) = 46 :: ws ↔ _
  constructor
  · rintro ⟨h1, h2⟩
    refine ⟨qs.take (qs.length - (ws.length + 1)), ?_⟩
    rw [List.take_of_length_le (by simp; omega)] at h2
    rw [← h2, List.take_append_drop]
  · rintro ⟨pre, rfl⟩
    refine ⟨by simp, ?_⟩
    have : (pre ++ 46 :: ws).length - (ws.length + 1) = pre.length := by simp
    rw [this, List.drop_left]
    exact List.take_of_length_le (by simp)
theorem aheadL_yes (pre ws : List Nat) : aheadL ws (pre ++ 46 :: ws) = pre := by
  rw [aheadL, if_pos (aheadB_iff.mpr ⟨pre, rfl⟩)]
  have : (pre ++ 46 :: ws).length - ws.length - 1 = pre.length := by simp; omega
  rw [this, List.take_left]
theorem aheadL_no {ws qs : List Nat} (h : ∀ pre, qs ≠ pre ++ 46 :: ws) : aheadL ws qs = [] := by
  rw [aheadL, if_neg fun e => let ⟨p, hp⟩ := aheadB_iff.mp e; h p hp]
theorem fitsB_iff {ws qs : List Nat} (h : fitsB ws qs = true) : ∀ j, j < min ws.length qs.length → qs[j]? = ws[j]? := by
  intro j hj
  unfold fitsB at h
  rw [List.all_eq_true] at h
  have h1 : j < ws.length := by omega
  have h2 : j < qs.length := by omega
  have := h (ws[j], qs[j]) (by rw [List.mem_iff_getElem?]; exact ⟨j, by rw [List.getElem?_zip_eq_some]; exact ⟨List.getElem?_eq_getElem h1, List.getElem?_eq_getElem h2⟩⟩)
  rw [List.getElem?_eq_getElem h1, List.getElem?_eq_getElem h2]
  simpa using (beq_iff_eq.mp this).symm
theorem restL_yes (ws post : List Nat) : restL ws (ws ++ 46 :: post) = post := by
  rw [restL, if_pos]
  · have : ws ++ 46 :: post = (ws ++ [46]) ++ post := by simp
    rw [this, show ws.length + 1 = (ws ++ [46]).length by simp, List.drop_left]
  · rw [Bool.and_eq_true_iff]
    refine ⟨decide_eq_true (by simp), fitsB_yes fun j hj => ?_⟩
    have hl : j < ws.length + 1 := by simp at hj; omega
    have hl2 : j < (ws ++ [46]).length := by simpa using hl
    rw [show ws ++ 46 :: post = (ws ++ [46]) ++ post by simp, List.getElem?_append_left (l₂ := post) hl2]
theorem restL_no {ws qs : List Nat} (h : ∀ post, qs ≠ ws ++ 46 :: post) : restL ws qs = [] := by
  rw [restL, if_neg]
  intro e
  rw [Bool.and_eq_true_iff, decide_eq_true_iff] at e
  have hp := fitsB_iff e.2
  refine h (qs.drop (ws.length + 1)) ?_
  have : qs.take (ws ++ [46]).length = ws ++ [46] := by
    apply List.ext_getElem?
    intro j
    by_cases hj : j < (ws ++ [46]).length
    · rw [List.getElem?_take_of_lt hj, hp j (by omega)]
    · rw [List.getElem?_eq_none (by simp at hj ⊢; omega), List.getElem?_eq_none (by omega)]
  calc qs = qs.take (ws ++ [46]).length ++ qs.drop (ws ++ [46]).length := (List.take_append_drop _ _).symm
    _ = ws ++ 46 :: qs.drop (ws.length + 1) := by rw [this]; simp
local macro_rules | `(tactic| walk_at "call ref") => `(tactic| ((with_reducible show wpAny _ _ (call (Value.ref 88) _) _ _ _); refine Stop.mk ?_))
namespace Kahead
abbrev Par : Type := (World) × (List Nat) × (List Nat) × (Tok) × (Tok) × (Addr) × (Obj) × (List (PySem.Str × Value)) × (Led) × (Program) × (List PySem.Str) × (ExcName → Option Value) × (PySem.Str → Option Value) × (PySem.Str → Option Value) × (Nat) × (Nat) × (Option (List Code)) × (PySem.Str) × (Scope) × (Addr) × (Value) × (List (PySem.Str × Addr)) × (List Env) × (Around) × (Heap) × (Heap) × (Addr) × (PySem.Str → Option Value) × (Shared) × (Value → Shared → Prop) × (Value → Shared → Prop)
theorem ne : Nonempty Par := ⟨by refine ⟨?_, ?_, ?_, ?_, ?_, ?_, ?_, ?_, ?_, ?_, ?_, ?_, ?_, ?_, ?_, ?_, ?_, ?_, ?_, ?_, ?_, ?_, ?_, ?_, ?_, ?_, ?_, ?_, ?_, ?_, ?_⟩ <;> first | exact W0 | exact default | exact {} | exact FD0⟩
noncomputable def Goal : Par → Prop := fun e0 => (fun (w : World) (ws : List Nat) (qs : List Nat) (t0 : Tok) (t1 : Tok) (d : Addr) (o : Obj) (kvs : List (PySem.Str × Value)) (rest : Led) (p : Program) (loose : List PySem.Str) (mean : ExcName → Option Value) (mg : PySem.Str → Option Value) (mb : PySem.Str → Option Value) (dp : Nat) (un : Nat) (gd : Option (List Code)) (cn : PySem.Str) (cs : Scope) (a : Addr) (ccd : Value) (cl : List (PySem.Str × Addr)) (outer : List Env) (A₀ : Around) (base : Heap) (h₀ : Heap) (L : Addr) (m : PySem.Str → Option Value) (s : Shared) (Q : Value → Shared → Prop) (E : Value → Shared → Prop) => (lo : (d == sysModules) = false) → (hdT : o.IsDictOf (PySem.strKind P0 w) kvs) → (hsz : kvs.length ≤ sizeLine) → (hkT : AskedOk kvs) → (hrest : ∀ p ∈ rest, p.1 ≠ d) → (hw : Wd ws) → (hs : ∀ c ∈ ws, c ∈ signs17) → (hq : ∀ c ∈ qs, c ∈ signs17) → (hlen : qs.length ≤ 100) → (hwl : ws.length ≤ 29) → FnG w 890 147 [.ref d, .str (tx ws) t0, .str (tx qs) t1] ((d, o) :: rest) (fun r n' => (∃ t, r = .str (tx (aheadL ws qs)) t) ∧ ∃ o' kvs', o'.IsDictOf (PySem.strKind P0 w) kvs' ∧ kvs'.length ≤ kvs.length + 1 ∧ AskedOk kvs' ∧ n' = (d, o') :: rest) p loose mean mg mb dp un gd cn cs a ccd cl outer A₀ base h₀ L m s Q E) e0.1 e0.2.1 e0.2.2.1 e0.2.2.2.1 e0.2.2.2.2.1 e0.2.2.2.2.2.1 e0.2.2.2.2.2.2.1 e0.2.2.2.2.2.2.2.1 e0.2.2.2.2.2.2.2.2.1 e0.2.2.2.2.2.2.2.2.2.1 e0.2.2.2.2.2.2.2.2.2.2.1 e0.2.2.2.2.2.2.2.2.2.2.2.1 e0.2.2.2.2.2.2.2.2.2.2.2.2.1 e0.2.2.2.2.2.2.2.2.2.2.2.2.2.1 e0.2.2.2.2.2.2.2.2.2.2.2.2.2.2.1 e0.2.2.2.2.2.2.2.2.2.2.2.2.2.2.2.1 e0.2.2.2.2.2.2.2.2.2.2.2.2.2.2.2.2.1 e0.2.2.2.2.2.2.2.2.2.2.2.2.2.2.2.2.2.1 e0.2.2.2.2.2.2.2.2.2.2.2.2.2.2.2.2.2.2.1 e0.2.2.2.2.2.2.2.2.2.2.2.2.2.2.2.2.2.2.2.1 e0.2.2.2.2.2.2.2.2.2.2.2.2.2.2.2.2.2.2.2.2.1 e0.2.2.2.2.2.2.2.2.2.2.2.2.2.2.2.2.2.2.2.2.2.1 e0.2.2.2.2.2.2.2.2.2.2.2.2.2.2.2.2.2.2.2.2.2.2.1 e0.2.2.2.2.2.2.2.2.2.2.2.2.2.2.2.2.2.2.2.2.2.2.2.1 e0.2.2.2.2.2.2.2.2.2.2.2.2.2.2.2.2.2.2.2.2.2.2.2.2.1 e0.2.2.2.2.2.2.2.2.2.2.2.2.2.2.2.2.2.2.2.2.2.2.2.2.2.1 e0.2.2.2.2.2.2.2.2.2.2.2.2.2.2.2.2.2.2.2.2.2.2.2.2.2.2.1 e0.2.2.2.2.2.2.2.2.2.2.2.2.2.2.2.2.2.2.2.2.2.2.2.2.2.2.2.1 e0.2.2.2.2.2.2.2.2.2.2.2.2.2.2.2.2.2.2.2.2.2.2.2.2.2.2.2.2.1 e0.2.2.2.2.2.2.2.2.2.2.2.2.2.2.2.2.2.2.2.2.2.2.2.2.2.2.2.2.2.1 e0.2.2.2.2.2.2.2.2.2.2.2.2.2.2.2.2.2.2.2.2.2.2.2.2.2.2.2.2.2.2
noncomputable def q : Par := pick ne Goal
@[irreducible] noncomputable def w : World := q.1
@[irreducible] noncomputable def ws : List Nat := q.2.1
@[irreducible] noncomputable def qs : List Nat := q.2.2.1
@[irreducible] noncomputable def t0 : Tok := q.2.2.2.1
@[irreducible] noncomputable def t1 : Tok := q.2.2.2.2.1
@[irreducible] noncomputable def d : Addr := q.2.2.2.2.2.1
@[irreducible] noncomputable def o : Obj := q.2.2.2.2.2.2.1
@[irreducible] noncomputable def kvs : List (PySem.Str × Value) := q.2.2.2.2.2.2.2.1
@[irreducible] noncomputable def rest : Led := q.2.2.2.2.2.2.2.2.1
@[irreducible] noncomputable def p : Program := q.2.2.2.2.2.2.2.2.2.1
@[irreducible] noncomputable def loose : List PySem.Str := q.2.2.2.2.2.2.2.2.2.2.1
@[irreducible] noncomputable def mean : ExcName → Option Value := q.2.2.2.2.2.2.2.2.2.2.2.1
@[irreducible] noncomputable def mg : PySem.Str → Option Value := q.2.2.2.2.2.2.2.2.2.2.2.2.1
@[irreducible] noncomputable def mb : PySem.Str → Option Value := q.2.2.2.2.2.2.2.2.2.2.2.2.2.1
@[irreducible] noncomputable def dp : Nat := q.2.2.2.2.2.2.2.2.2.2.2.2.2.2.1
@[irreducible] noncomputable def un : Nat := q.2.2.2.2.2.2.2.2.2.2.2.2.2.2.2.1
@[irreducible] noncomputable def gd : Option (List Code) := q.2.2.2.2.2.2.2.2.2.2.2.2.2.2.2.2.1
@[irreducible] noncomputable def cn : PySem.Str := q.2.2.2.2.2.2.2.2.2.2.2.2.2.2.2.2.2.1
@[irreducible] noncomputable def cs : Scope := q.2.2.2.2.2.2.2.2.2.2.2.2.2.2.2.2.2.2.1
@[irreducible] noncomputable def a : Addr := q.2.2.2.2.2.2.2.2.2.2.2.2.2.2.2.2.2.2.2.1
@[irreducible] noncomputable def ccd : Value := q.2.2.2.2.2.2.2.2.2.2.2.2.2.2.2.2.2.2.2.2.1
@[irreducible] noncomputable def cl : List (PySem.Str × Addr) := q.2.2.2.2.2.2.2.2.2.2.2.2.2.2.2.2.2.2.2.2.2.1
@[irreducible] noncomputable def outer : List Env := q.2.2.2.2.2.2.2.2.2.2.2.2.2.2.2.2.2.2.2.2.2.2.1
@[irreducible] noncomputable def A₀ : Around := q.2.2.2.2.2.2.2.2.2.2.2.2.2.2.2.2.2.2.2.2.2.2.2.1
@[irreducible] noncomputable def base : Heap := q.2.2.2.2.2.2.2.2.2.2.2.2.2.2.2.2.2.2.2.2.2.2.2.2.1
@[irreducible] noncomputable def h₀ : Heap := q.2.2.2.2.2.2.2.2.2.2.2.2.2.2.2.2.2.2.2.2.2.2.2.2.2.1
@[irreducible] noncomputable def L : Addr := q.2.2.2.2.2.2.2.2.2.2.2.2.2.2.2.2.2.2.2.2.2.2.2.2.2.2.1
@[irreducible] noncomputable def m : PySem.Str → Option Value := q.2.2.2.2.2.2.2.2.2.2.2.2.2.2.2.2.2.2.2.2.2.2.2.2.2.2.2.1
@[irreducible] noncomputable def s : Shared := q.2.2.2.2.2.2.2.2.2.2.2.2.2.2.2.2.2.2.2.2.2.2.2.2.2.2.2.2.1
@[irreducible] noncomputable def Q : Value → Shared → Prop := q.2.2.2.2.2.2.2.2.2.2.2.2.2.2.2.2.2.2.2.2.2.2.2.2.2.2.2.2.2.1
@[irreducible] noncomputable def E : Value → Shared → Prop := q.2.2.2.2.2.2.2.2.2.2.2.2.2.2.2.2.2.2.2.2.2.2.2.2.2.2.2.2.2.2
noncomputable def BH (g₉ : Heap) (l₉ : Addr) (h₉ : Heap) (t₉ : Nat) : Prop := BodyH w 147 146 24 [(PySem.Str.ofString "other", .str (tx qs) t1), (PySem.Str.ofString "one", .str (tx ws) t0), (PySem.Str.ofString "known", .ref d)] ((d, o) :: rest) p loose mean mg mb dp un gd cn cs a ccd cl outer base h₀ L m s Q E (rfl : stm 24 = _) g₉ l₉ h₉ t₉
noncomputable def ev : EV := pick evne (fun e => BH e.g e.l e.h e.t)
@[irreducible] noncomputable def g' : Heap := ev.g
@[irreducible] noncomputable def L' : Addr := ev.l
@[irreducible] noncomputable def h' : Heap := ev.h
@[irreducible] noncomputable def tk' : Nat := ev.t
theorem body (lo : (d == sysModules) = false) (hdT : o.IsDictOf (PySem.strKind P0 w) kvs) (hsz : kvs.length ≤ sizeLine) (hkT : AskedOk kvs) (hrest : ∀ p ∈ rest, p.1 ≠ d) (hw : Wd ws) (hs : ∀ c ∈ ws, c ∈ signs17) (hq : ∀ c ∈ qs, c ∈ signs17) (hlen : qs.length ≤ 100) (hwl : ws.length ≤ 29) (B : Below A₀ base outer h₀) (X : (K0 w.params).In h₀) (T : Top p loose mean mg mb h₀) (C1 : CodeHd h₀ 61 57) (C2 : CodeHd h₀ 170 168) (hk : cs.kind = .function) (hd : dp < 890) (hu : un < 8 * 890) (hret : ∀ r news' h' tk', Fr h₀ L h' m → News h₀ L h' news' → ((fun r n' => (∃ t, r = .str (tx (aheadL ws qs)) t) ∧ ∃ o' kvs', o'.IsDictOf (PySem.strKind P0 w) kvs' ∧ kvs'.length ≤ kvs.length + 1 ∧ AskedOk kvs' ∧ n' = (d, o') :: rest)) r news' → Q r { s with heap := h', toks := tk' }) : BH g' L' h' tk' := by
  have yc : Clo := .mk
  w_on
  intro F' N' B' X' T' C1' C2' lt'
  (try dsimp only)
  have hwt : (tx ws).length = ws.length := tx_length ws
  have hqt : (tx qs).length = qs.length := tx_length qs
  have hqs1 : (tx qs).length ≤ 100 := by rw [hqt]; exact hlen
  have hws1 : (tx ws).length ≤ 100 := by rw [hwt]; omega
  have hk1 : tx ws ++ PySem.Str.ofString ".." = tx (ws ++ [46, 46]) := tx_append _ _
  have hk2 : tx (ws ++ [46, 46]) ++ tx qs = tx (ws ++ 46 :: 46 :: qs) := by rw [tx_append, List.append_assoc]; rfl
  have hk2l : (tx (ws ++ 46 :: 46 :: qs)).length ≤ 1000000 := by rw [tx_length]; simp; omega
  have hk3 : PySem.Str.ofString "." ++ tx ws = tx (46 :: ws) := tx_append [46] _
  have hk3l : (tx (46 :: ws)).length ≤ 1000000 := by rw [tx_length]; simp; omega
  generalize hkey : tx (ws ++ 46 :: 46 :: qs) = key at *
  obtain ⟨z, hsl, hz⟩ : ∃ z, Txt.slice (tx qs) none (some (((tx qs).length : Nat) - ((tx ws).length : Nat) - 1 : Int)) = z ∧ (aheadB ws qs = true → z = tx (aheadL ws qs)) := by
    refine ⟨_, rfl, fun hc => ?_⟩
    rw [aheadL, if_pos hc]
    have hle : ws.length + 1 ≤ qs.length := by obtain ⟨p, hpe⟩ := aheadB_iff.mp hc; rw [hpe]; simp
    exact slice_to (List.take_append_drop (qs.length - ws.length - 1) qs).symm (by rw [hwt, hqt, List.length_take]; omega)
  revert z hsl hz
  intro z hsl hz
  rcases (Option.eq_none_or_eq_some (valueAt kvs key)).symm with hvz | hv
  · obtain ⟨v, hv⟩ := hvz
    revert v hv
    intro v hv
    have hv1 : (valueAt kvs key).isSome = true := by rw [hv]; rfl
    obtain ⟨ws', qs', a1, a2, zz1⟩ := hkT _ _ hv
    revert ws' qs' a1 a2 zz1
    intro ws' qs' a1 a2 zz1
    subst zz1
    rw [← hkey] at a2
    obtain ⟨zz2, zz3⟩ := key_inj hw a1 (tx_inj a2)
    revert zz2 zz3
    intro zz2 zz3
    subst zz2 zz3
    clear a2
    k_steps
    · exact hret _ _ _ _ (by assumption) (by assumption) ⟨⟨_, by rw [hz (by simpa using ‹(aheadB ws qs == true) = true›)]⟩, o, kvs, hdT, Nat.le_succ _, hkT, rfl⟩
    · exact hret _ _ _ _ (by assumption) (by assumption) ⟨⟨_, by rw [aheadL, if_neg (by simpa using ‹(aheadB ws qs == true) = false›)]; rfl⟩, o, kvs, hdT, Nat.le_succ _, hkT, rfl⟩
  · skip
    have hv1 : (valueAt kvs key).isSome = false := by rw [hv]; rfl
    k_steps
    refine Stop.go ?_
    refine fn_use (udm w _ _ _ _ _ ?hx ?hx3 (low_tx (List.forall_mem_cons.mpr ⟨by decide, hs⟩) ?hy) ?hdot) (by assumption) (by assumption) X' (by assumption) T' C1' C2' (by rfl) (by k_extra "dep") (by k_extra "dep") ?_
    case hx => rw [lower_upper hq]; exact low_tx hq (by omega)
    case hx3 => rw [upper_len hq]; omega
    case hy => simp; omega
    case hdot => exact starts_dot ws
    intro r' n' h' tk' F' N'
    intro zz4
    obtain ⟨zz5, zz6⟩ := zz4
    revert zz5 zz6
    intro zz5 zz6
    subst zz5 zz6
    dsimp only
    rw [lower_upper hq, show Txt.endswith (tx qs) (tx (46 :: ws)) = aheadB ws qs from rfl]
    have hv2 : valueAt (stored kvs key (Value.bool (aheadB ws qs))) key = some (Value.bool (aheadB ws qs)) := by rw [valueAt_stored hv, if_pos rfl]
    have hsz2 : (stored kvs key (Value.bool (aheadB ws qs))).length ≤ kvs.length + 1 := stored_length_le _ _ _
    have hkT2 : AskedOk (stored kvs key (Value.bool (aheadB ws qs))) := by
      intro k v hx
      rw [valueAt_stored hv] at hx
      by_cases e : k = key
      · rw [if_pos e] at hx
        cases hx
        exact ⟨ws, qs, hw, by rw [e, hkey], rfl⟩
      · rw [if_neg e] at hx
        exact hkT _ _ hx
    generalize hkv : stored kvs key (Value.bool (aheadB ws qs)) = kvs2 at *
    k_steps
    rename_i o2 _ _ hd2
    rw [hkv] at hd2
    k_steps
    · exact hret _ _ _ _ (by assumption) (by assumption) ⟨⟨_, by rw [hz (by simpa using ‹(aheadB ws qs == true) = true›)]⟩, o2, kvs2, hd2, hsz2, hkT2, rfl⟩
    · exact hret _ _ _ _ (by assumption) (by assumption) ⟨⟨_, by rw [aheadL, if_neg (by simpa using ‹(aheadB ws qs == true) = false›)]; rfl⟩, o2, kvs2, hd2, hsz2, hkT2, rfl⟩
theorem main (lo : (d == sysModules) = false) (hdT : o.IsDictOf (PySem.strKind P0 w) kvs) (hsz : kvs.length ≤ sizeLine) (hkT : AskedOk kvs) (hrest : ∀ p ∈ rest, p.1 ≠ d) (hw : Wd ws) (hs : ∀ c ∈ ws, c ∈ signs17) (hq : ∀ c ∈ qs, c ∈ signs17) (hlen : qs.length ≤ 100) (hwl : ws.length ≤ 29) : FnG w 890 147 [.ref d, .str (tx ws) t0, .str (tx qs) t1] ((d, o) :: rest) (fun r n' => (∃ t, r = .str (tx (aheadL ws qs)) t) ∧ ∃ o' kvs', o'.IsDictOf (PySem.strKind P0 w) kvs' ∧ kvs'.length ≤ kvs.length + 1 ∧ AskedOk kvs' ∧ n' = (d, o') :: rest) p loose mean mg mb dp un gd cn cs a ccd cl outer A₀ base h₀ L m s Q E := by
  intro B F X N T C1 C2 hk hd hu hret
  refine wpAny_call ?_
  with_unfolding_all refine' code_my (binds := [(PySem.Str.ofString "other", .str (tx qs) t1), (PySem.Str.ofString "one", .str (tx ws) t0), (PySem.Str.ofString "known", .ref d)]) B F X N T C1 C2 ?kA ?kF ?kK ?ko ?est ?kcd ?kroom ?kbind ?kloc (fun g₁ l₁ h₁ t₁ _ => pick_all evne (P := fun e => BH e.g e.l e.h e.t) ?bd ⟨g₁, l₁, h₁, t₁⟩) ?kco ?kgen ?kkind ?kcell
  (case kA => exact rfl)
  (case kF => exact rfl)
  (case kK => exact hk)
  (case ko => k_is)
  (case est => exact rfl)
  (case kcd => k_is)
  (case kroom => (show dp < 1000; omega))
  (case kbind => exact BindsTo.of_eq rfl)
  (case kloc => exact locs rfl)
  (case kco => exact rfl)
  (case kgen => exact rfl)
  (case kkind => exact rfl)
  (case kcell => decide)
  (case bd => with_unfolding_all exact body lo hdT hsz hkT hrest hw hs hq hlen hwl B X T C1 C2 hk hd hu hret)
theorem goal_q : Goal q := by with_unfolding_all exact main
end Kahead
theorem ahead (w : World) (ws qs : List Nat) (t0 t1 : Tok) (d : Addr) (o : Obj) (kvs : List (PySem.Str × Value)) (rest : Led)
    (lo : (d == sysModules) = false) (hdT : o.IsDictOf (PySem.strKind P0 w) kvs) (hsz : kvs.length ≤ sizeLine) (hkT : AskedOk kvs) (hrest : ∀ p ∈ rest, p.1 ≠ d)
    (hw : Wd ws) (hs : ∀ c ∈ ws, c ∈ signs17) (hq : ∀ c ∈ qs, c ∈ signs17) (hlen : qs.length ≤ 100) (hwl : ws.length ≤ 29) :
    Fn w 890 147 [.ref d, .str (tx ws) t0, .str (tx qs) t1] ((d, o) :: rest) (fun r n' => (∃ t, r = .str (tx (aheadL ws qs)) t) ∧ ∃ o' kvs', o'.IsDictOf (PySem.strKind P0 w) kvs' ∧ kvs'.length ≤ kvs.length + 1 ∧ AskedOk kvs' ∧ n' = (d, o') :: rest) := by
  exact fun p loose mean mg mb dp un gd cn cs a ccd cl outer A₀ base h₀ L m s Q E => pick_all Kahead.ne (P := Kahead.Goal) Kahead.goal_q ⟨w, ws, qs, t0, t1, d, o, kvs, rest, p, loose, mean, mg, mb, dp, un, gd, cn, cs, a, ccd, cl, outer, A₀, base, h₀, L, m, s, Q, E⟩ lo hdT hsz hkT hrest hw hs hq hlen hwl
end S_FAh
end G_FBe
section S_Fl
section
variable {prog : Program} {w : World} {A : Around} {E : Value → Shared → Prop} {s : Shared} {env : Env} {h₀ : Heap}
theorem for_list2 {target : Expr} {body : List Stmt} {Q : Flow → Shared → Prop} {ax : Addr} {vs : List Value} {n : Nat} {m₀ : PySem.Str → Option Value} {news : Led} (J : Nat → (PySem.Str → Option Value) → Led → Prop)
    (hh : A.handled = none) (F : Fr h₀ env.locals s.heap m₀) (N : News h₀ env.locals s.heap news) (hm : (ax, W.listOf vs.toArray n) ∈ news)
    (hj : J 0 m₀ news) (hkeep : ∀ i m' n', J i m' n' → (ax, W.listOf vs.toArray n) ∈ n')
    (step : ∀ i v m' news' h' tk' I oI (QQ : Flow → Shared → Prop), vs[i]? = some v → J i m' news' → (∀ p ∈ news', p.1 ≠ I) → Fr h₀ env.locals h' m' → News h₀ env.locals h' ((I, oI) :: news') →
      QUp (AgainF h₀ env.locals { s with heap := h', toks := tk' } [(I, oI)] (J (i + 1)) Q) QQ →
      wpAny (model prog w) A (assign target env v) (fun _ s₂ => wpAny (model prog w) A (execs body env) QQ E s₂) E { s with heap := h', toks := tk' })
    (done : ∀ m' news' h' tk', J vs.length m' news' → Fr h₀ env.locals h' m' → News h₀ env.locals h' news' → Q .next { s with heap := h', toks := tk' }) :
    wpAny (model prog w) A (pyIter (.ref ax)) (fun it s₂ => TurnsAt prog w A h₀ env target body Q E it s₂) E s := by
  have hax := N _ hm
  have hl : s.heap.IsList ax vs.toArray := ⟨_, hax.1, rfl, n, rfl⟩
  have hne : ax ≠ s.heap.objs.size := Nat.ne_of_lt (Heap.lt_size hax.1)
  have hnew : h₀.get? s.heap.objs.size = none := ktu_new F (Nat.le_refl _)
  refine wpAny_pyIter_list hl ?_
  have WT := KTurns.ofWalks (target := target) (Walks.list (prog := prog) (w := w) hh s.heap.objs.size ax hne vs.toArray) fun i v s Q E st q => letGo_listiter st.1 q
  refine ⟨_, _, _, _, _, _, _, m₀, news, J, rfl, WT, ?_, ?_, ?_, ⟨⟨_, Heap.get?_push_size _ rfl, rfl, rfl⟩, hl.at fun o e => Heap.get?_push_of_some _ e⟩, F.push _, N.grown fun b o e => Heap.get?_push_of_some _ e, hj, ?_, ?_⟩
  · intro hx
    simp only [List.mem_cons, List.not_mem_nil, or_false] at hx
    rcases hx with hx | hx
    · exact Nat.ne_of_lt F.ns.lt hx
    · exact hax.2.1 hx.symm
  · intro b hb
    rw [List.mem_singleton.mp hb]; exact hnew
  · intro p hp hb
    exact Nat.ne_of_lt (Heap.lt_size (N p hp).1) (List.mem_singleton.mp hb)
  · rintro i v m₁ news₁ h₁ tk₁ own hi hv hJ hoff hfp hget hin ⟨⟨oI, hI, _⟩, hL2⟩ F₁ N₁
    have hv' : vs[i]? = some v := by simpa using hv
    have hIo : (s.heap.objs.size, oI) ∈ own := hin _ (by simp) hnew _ hI
    have NI : News h₀ env.locals h₁ ((s.heap.objs.size, oI) :: news₁) := fun p hp => (List.mem_cons.mp hp).elim (fun e => by rw [e]; exact N₁ _ (List.mem_append_left _ hIo)) (fun h => N₁ _ (List.mem_append_right _ h))
    have back : ∀ {h' : Heap} {n' : Led}, News h₀ env.locals h' ([(s.heap.objs.size, oI)] ++ n') → (ax, W.listOf vs.toArray n) ∈ n' → News h₀ env.locals h' (own ++ n') := by
      intro h' n' N' hk p hp
      rcases List.mem_append.mp hp with hp | hp
      · have h1 := hfp p hp
        have h2 := hget p hp
        simp only [List.mem_cons, List.not_mem_nil, or_false] at h1
        rcases h1 with h1 | h1
        · have : p = (s.heap.objs.size, oI) := by
            rw [h1, hI] at h2; exact Prod.ext h1 (Option.some.inj h2).symm
          rw [this]; exact N' _ List.mem_cons_self
        · have hx := (N₁ _ (List.mem_append_right _ (hkeep _ _ _ hJ))).1
          have : p = (ax, W.listOf vs.toArray n) := by
            rw [h1, hx] at h2; exact Prod.ext h1 (Option.some.inj h2).symm
          rw [this]; exact N' _ (List.mem_append_right _ hk)
      · exact N' _ (List.mem_append_right _ hp)
    have offI : ∀ {n' : Led}, (∀ p ∈ n', ∀ q ∈ [(s.heap.objs.size, oI)], p.1 ≠ q.1) → ∀ p ∈ n', p.1 ∉ [s.heap.objs.size] := fun h p hp hb => h p hp _ List.mem_cons_self (List.mem_singleton.mp hb)
    refine wpAny_mono (step i v m₁ news₁ h₁ tk₁ _ oI _ hv' hJ (fun p hp e => hoff p hp (by rw [e]; exact List.mem_cons_self)) F₁ NI QUp.rfl') (fun _ s₂ h₂ => wpAny_mono h₂ (fun f s₃ p => ?_) fun _ _ e => e) fun _ _ e => e
    cases f with
    | ret v => exact .ret p
    | brk => exact .brk p
    | next => obtain ⟨h', tk, m', n', e, F', N', of', hj'⟩ := p; exact .next ⟨rfl, h', tk, m', n', e, F', back N' (hkeep _ _ _ hj'), offI of', hj'⟩
    | cont => obtain ⟨h', tk, m', n', e, F', N', of', hj'⟩ := p; exact .cont ⟨rfl, h', tk, m', n', e, F', back N' (hkeep _ _ _ hj'), offI of', hj'⟩
  · rintro h' tk m' n' F' N' _ hJ
    exact done m' n' h' tk (by simpa using hJ) F' N'
end
noncomputable def Apart (top base : Led) : Prop := ∀ q ∈ top, ∀ p ∈ base, p.1 ≠ q.1
theorem Apart.cons {q : Addr × Obj} {top base : Led} (h : ∀ p ∈ base, p.1 ≠ q.1) (t : Apart top base) : Apart (q :: top) base := fun x hx => (List.mem_cons.mp hx).elim (fun e => by rw [e]; exact h) (t x)
theorem Apart.nil {base : Led} : Apart [] base := fun _ h => nomatch h
theorem Apart.sub {top top' base : Led} (h : Apart top base) (hs : ∀ p ∈ top', p ∈ top) : Apart top' base := fun q hq => h q (hs q hq)
theorem Apart.set {a : Addr} {o o' : Obj} {top base : Led} (h : Apart ((a, o) :: top) base) : Apart ((a, o') :: top) base := fun q hq p hp => by
  rcases List.mem_cons.mp hq with rfl | hq
  · exact h (a, o) List.mem_cons_self p hp
  · exact h q (List.mem_cons_of_mem _ hq) p hp
theorem Apart.head {q : Addr × Obj} {top base : Led} (h : Apart (q :: top) base) : ∀ p ∈ base, p.1 ≠ q.1 := h q List.mem_cons_self
theorem Apart.tail {q : Addr × Obj} {top base : Led} (h : Apart (q :: top) base) : Apart top base := fun x hx => h x (List.mem_cons_of_mem _ hx)
structure RestC (w : World) (d : Nat) (f : Addr) (of : Obj) (R : List Nat → List Nat → List Nat) (Dm : List Nat → List Nat → Prop) (Inv : Nat → Led → Prop) : Prop where
  fn : ∃ oc od fd sl, of = ⟨oc, od, .func fd, sl⟩
  mem : ∀ k base, Inv k base → (f, of) ∈ base
  call : ∀ k base top one other t1 t2, Inv k base → k < 1000000 → Apart top base → Dm one other →
    Fn w d f [.str (tx one) t1, .str (tx other) t2] (top ++ base) (fun r n' => (∃ t, r = .str (tx (R one other)) t) ∧ ∃ base', Inv (k + 1) base' ∧ Apart top base' ∧ n' = top ++ base')
structure LayC (w : World) (d : Nat) (g : Addr) (og : Obj) (Y : List Nat → List Nat → List Nat) (need : Led) : Prop where
  fn : ∃ oc od fd sl, og = ⟨oc, od, .func fd, sl⟩
  mem : (g, og) ∈ need
  call : ∀ news a b t1 t2, (∀ p ∈ need, p ∈ news) → a.length ≤ 200 → b.length ≤ 200 →
    Fn w d g [.str (tx a) t1, .str (tx b) t2] news (fun r n' => (∃ t, r = .str (tx (Y a b)) t) ∧ n' = news)
noncomputable def DV (fs : List (List Nat × List Nat)) (kvs : List (PySem.Str × Value)) : Prop := F2 (fun p q => q.1 = tx p.1 ∧ TxtV p.2 q.2) fs kvs
noncomputable def look (fs : List (List Nat × List Nat)) (k : List Nat) : Option (List Nat) := (fs.find? fun p => p.1 = k).map (·.2)
theorem DV.at : ∀ {fs : List (List Nat × List Nat)} {kvs : List (PySem.Str × Value)}, DV fs kvs → ∀ k, (look fs k = none ∧ valueAt kvs (tx k) = none) ∨ ∃ x t, look fs k = some x ∧ valueAt kvs (tx k) = some (.str (tx x) t)
  | _, _, .nil, k => .inl ⟨rfl, rfl⟩
  | a :: fr, b :: kr, .cons h t, k => by
    obtain ⟨e1, u, e2⟩ := h
    by_cases e : a.1 = k
    · refine .inr ⟨a.2, u, ?_, ?_⟩
      · unfold look; rw [List.find?_cons_of_pos (by simpa using e)]; rfl
      · unfold valueAt; rw [List.find?_cons_of_pos (by rw [e1, e]; simp)]; simp [e2]
    · have l1 : look (a :: fr) k = look fr k := by unfold look; rw [List.find?_cons_of_neg (by simpa using e)]
      have l2 : valueAt (b :: kr) (tx k) = valueAt kr (tx k) := by unfold valueAt; rw [List.find?_cons_of_neg (by rw [e1]; simpa using fun h => e (tx_inj h))]
      rcases DV.at t k with ⟨h1, h2⟩ | ⟨x, t', h1, h2⟩
      · exact .inl ⟨l1.trans h1, l2.trans h2⟩
      · exact .inr ⟨x, t', l1.trans h1, l2.trans h2⟩
theorem DV.put {fs : List (List Nat × List Nat)} {kvs : List (PySem.Str × Value)} (h : DV fs kvs) {k x : List Nat} {t : Tok} (hk : valueAt kvs (tx k) = none) : DV (fs ++ [(k, x)]) (stored kvs (tx k) (.str (tx x) t)) := by
  rw [stored_absent hk]
  exact h.snoc ⟨rfl, _, rfl⟩
section
variable {prog : Program} {w : World} {A : Around} {E : Value → Shared → Prop} {s : Shared}
theorem truthy_tx {l : List Nat} {t : Tok} {b : Bool} {Q : Bool → Shared → Prop} (hl : l.length ≤ 100000) (hb : (!l.isEmpty) = b) (h : ∀ k, Q b { s with toks := k }) : wpAny (model prog w) A (truthy (.str (tx l) t)) Q E s := by
  have e : (((tx l).length : Int) != 0) = b := by rw [tx_length, ← hb]; cases l <;> simp; omega
  refine P.truthy_str (by rw [tx_length]; omega) ?_
  rw [e]; exact h _
noncomputable def CutEnd (h₀ : Heap) (L : Addr) (s : Shared) (m : PySem.Str → Option Value) (J : Led → Prop) (f : Flow) (s' : Shared) : Prop :=
  f = .next ∧ ∃ h' tk' n', s' = { s with heap := h', toks := tk' } ∧ Fr h₀ L h' m ∧ News h₀ L h' n' ∧ J n'
theorem CutEnd.mk {h₀ : Heap} {L : Addr} {s : Shared} {m : PySem.Str → Option Value} {J : Led → Prop} {h' : Heap} {tk' : Nat} {n' : Led} (F : Fr h₀ L h' m) (N : News h₀ L h' n') (j : J n') : CutEnd h₀ L s m J .next { s with heap := h', toks := tk' } :=
  ⟨rfl, h', tk', n', rfl, F, N, j⟩
theorem cut_fr {M : Model} {A : Around} {E : Value → Shared → Prop} {s : Shared} {h₀ : Heap} {L : Addr} {m : PySem.Str → Option Value} {t : Sem Flow} {Q : Flow → Shared → Prop} (_F : Fr h₀ L s.heap m) (J : Led → Prop)
    (h : wpAny M A t (CutEnd h₀ L s m J) E s)
    (k : ∀ h' tk' n', Fr h₀ L h' m → News h₀ L h' n' → J n' → Q .next { s with heap := h', toks := tk' }) : wpAny M A t Q E s :=
  wpAny_mono h (fun _ _ ⟨e, h', tk', n', e2, F, N, j⟩ => by subst e e2; exact k h' tk' n' F N j) fun _ _ e => e
end
end S_Fl
local macro_rules | `(tactic| walk_at $s:str) => if s.getString ∈ ["exec For", "exec For Name Name cons nil", "exec For Name Call cons nil", "exec For Tuple Call", "exec For Tuple Call cons nil", "call type:zip"] then `(tactic| (refine Stop.mk ?_)) else Lean.Macro.throwUnsupported
local macro_rules | `(tactic| walk_at "FnAt") => `(tactic| (k_dflt (exact FnAt.of (by k_asm) (by k_mem))))
example : True := by
  k_with "callWith ref" => ((refine' callWith_F ?k1 ?_; (case k1 => k_dflt (exact FnAt.of (by k_asm) (by k_mem)))))
  trivial
section S_FRe
local macro_rules | `(tactic| walk_at "call ref") => `(tactic| (refine Stop.mk ?_))
local macro_rules | `(tactic| walk_at "truthy str") => `(tactic| (refine' truthy_tx ?k1 ?k2 ?_; (case k1 => omega); (case k2 => assumption); intro _))
example : True := by
  trivial
local macro_rules | `(tactic| walk_at "exec If") => `(tactic| (refine Stop.mk ?_))
noncomputable def step2 (R Y : List Nat → List Nat → List Nat) (msg word : List Nat) (found : List (List Nat × List Nat)) (one : List Nat) : List (List Nat × List Nat) :=
  let f1 := if R word one ≠ [] ∧ look found (R word one) = none then found ++ [(R word one, Y msg (R word one))] else found
  if R one word ≠ [] ∧ look f1 (R one word) = none then f1 ++ [(R one word, msg)] else f1
noncomputable def step1 (R Y : List Nat → List Nat → List Nat) (code : List (List Nat)) (msgs : List (List Nat × List Nat)) (found : List (List Nat × List Nat)) (word : List Nat) : List (List Nat × List Nat) :=
  code.foldl (step2 R Y ((look msgs word).getD []) word) found
noncomputable def restsL (R Y : List Nat → List Nat → List Nat) (code fresh : List (List Nat)) (msgs : List (List Nat × List Nat)) : List (List Nat × List Nat) := fresh.foldl (step1 R Y code msgs) []
theorem step2_len (R Y : List Nat → List Nat → List Nat) (msg word : List Nat) (found : List (List Nat × List Nat)) (one : List Nat) : (step2 R Y msg word found one).length ≤ found.length + 2 := by
  unfold step2
  dsimp only
  split <;> split <;> simp
theorem fold2_len (R Y : List Nat → List Nat → List Nat) (msg word : List Nat) : ∀ (l : List (List Nat)) (found : List (List Nat × List Nat)), (l.foldl (step2 R Y msg word) found).length ≤ found.length + 2 * l.length
  | [], _ => Nat.le_refl _
  | a :: l, found => by
    have h1 := fold2_len R Y msg word l (step2 R Y msg word found a)
    have h2 := step2_len R Y msg word found a
    rw [List.foldl_cons, List.length_cons]
    omega
theorem fold1_len (R Y : List Nat → List Nat → List Nat) (code : List (List Nat)) (msgs : List (List Nat × List Nat)) : ∀ (l : List (List Nat)) (found : List (List Nat × List Nat)), (l.foldl (step1 R Y code msgs) found).length ≤ found.length + 2 * code.length * l.length
  | [], _ => Nat.le_refl _
  | a :: l, found => by
    have h1 := fold1_len R Y code msgs l (step1 R Y code msgs found a)
    have h2 := fold2_len R Y ((look msgs a).getD []) a code found
    rw [List.foldl_cons, List.length_cons, Nat.mul_add]
    unfold step1 at h1 ⊢
    omega
inductive DJ (w : World) (Inv : Nat → Led → Prop) (ks : List PySem.Str) (m0 m' : PySem.Str → Option Value) (fs : List (List Nat × List Nat)) (kx : Nat) (d : Addr) (own n' : Led) : Prop
  | mk (hk : KeptK ks m0 m') (o : Obj) (kvs : List (PySem.Str × Value)) (b : Led) (k : Nat) (g1 : o.IsDictOf (PySem.strKind P0 w) kvs) (g2 : DV fs kvs) (g3 : Inv k b) (g4 : k ≤ kx) (g5 : Apart ((d, o) :: own) b) (g6 : n' = (d, o) :: (own ++ b)) : DJ w Inv ks m0 m' fs kx d own n'
inductive DJI (w : World) (Inv : Nat → Led → Prop) (ks : List PySem.Str) (m0 m' : PySem.Str → Option Value) (fs : List (List Nat × List Nat)) (kx : Nat) (I : Addr) (oI : Obj) (d : Addr) (own n' : Led) : Prop
  | mk (hk : KeptK ks m0 m') (o : Obj) (kvs : List (PySem.Str × Value)) (b : Led) (k : Nat) (g1 : o.IsDictOf (PySem.strKind P0 w) kvs) (g2 : DV fs kvs) (g3 : Inv k b) (g4 : k ≤ kx) (g5 : Apart ((I, oI) :: (d, o) :: own) b) (g6 : n' = (I, oI) :: (d, o) :: (own ++ b)) : DJI w Inv ks m0 m' fs kx I oI d own n'
inductive RestsP (w : World) (R Y : List Nat → List Nat → List Nat) (code fresh : List (List Nat)) (msgs : List (List Nat × List Nat)) (Inv : Nat → Led → Prop) (kb : Nat) (own : Led) (r : Value) (n' : Led) : Prop
  | mk (a : Addr) (o : Obj) (kvs : List (PySem.Str × Value)) (base' : Led) (k' : Nat) (h1 : r = .ref a) (h2 : o.IsDictOf (PySem.strKind P0 w) kvs) (h3 : DV (restsL R Y code fresh msgs) kvs) (h4 : Inv k' base') (h5 : k' ≤ kb + 2 * code.length * fresh.length) (h6 : Apart ((a, o) :: own) base') (h7 : ∀ p ∈ own, p.1 < a) (h8 : n' = (a, o) :: (own ++ base')) : RestsP w R Y code fresh msgs Inv kb own r n'
namespace Krests
abbrev Par : Type := (World) × (Addr) × (Addr) × (Value) × (Value) × (Option Addr) × (Option Addr) × (FuncData) × (FuncData) × (Array (Option Value)) × (Array (Option Value)) × (List Nat → List Nat → List Nat) × (List Nat → List Nat → List Nat) × (List Nat → List Nat → Prop) × (Nat → Led → Prop) × (Led) × (Addr) × (Addr) × (Addr) × (Nat) × (Nat) × (List (List Nat)) × (List (List Nat)) × (List Value) × (List Value) × (List (List Nat × List Nat)) × (List (PySem.Str × Value)) × (Obj) × (Led) × (Led) × (Nat) × (Program) × (List PySem.Str) × (ExcName → Option Value) × (PySem.Str → Option Value) × (PySem.Str → Option Value) × (Nat) × (Nat) × (Option (List Code)) × (PySem.Str) × (Scope) × (Addr) × (Value) × (List (PySem.Str × Addr)) × (List Env) × (Around) × (Heap) × (Heap) × (Addr) × (PySem.Str → Option Value) × (Shared) × (Value → Shared → Prop) × (Value → Shared → Prop)
theorem ne : Nonempty Par := ⟨by refine ⟨?_, ?_, ?_, ?_, ?_, ?_, ?_, ?_, ?_, ?_, ?_, ?_, ?_, ?_, ?_, ?_, ?_, ?_, ?_, ?_, ?_, ?_, ?_, ?_, ?_, ?_, ?_, ?_, ?_, ?_, ?_, ?_, ?_, ?_, ?_, ?_, ?_, ?_, ?_, ?_, ?_, ?_, ?_, ?_, ?_, ?_, ?_, ?_, ?_, ?_, ?_, ?_, ?_⟩ <;> first | exact W0 | exact default | exact {} | exact FD0⟩
noncomputable def Goal : Par → Prop := fun e0 => (fun (w : World) (f : Addr) (g : Addr) (foc : Value) (goc : Value) (fod : Option Addr) (god : Option Addr) (ffd : FuncData) (gfd : FuncData) (fsl : Array (Option Value)) (gsl : Array (Option Value)) (R : List Nat → List Nat → List Nat) (Y : List Nat → List Nat → List Nat) (Dm : List Nat → List Nat → Prop) (Inv : Nat → Led → Prop) (need : Led) (lc : Addr) (lf : Addr) (lm : Addr) (cc : Nat) (cf : Nat) (code : List (List Nat)) (fresh : List (List Nat)) (cvs : List Value) (fvs : List Value) (msgs : List (List Nat × List Nat)) (mkv : List (PySem.Str × Value)) (om : Obj) (own : Led) (bs : Led) (kb : Nat) (p : Program) (loose : List PySem.Str) (mean : ExcName → Option Value) (mg : PySem.Str → Option Value) (mb : PySem.Str → Option Value) (dp : Nat) (un : Nat) (gd : Option (List Code)) (cn : PySem.Str) (cs : Scope) (a : Addr) (ccd : Value) (cl : List (PySem.Str × Addr)) (outer : List Env) (A₀ : Around) (base : Heap) (h₀ : Heap) (L : Addr) (m : PySem.Str → Option Value) (s : Shared) (Q : Value → Shared → Prop) (E : Value → Shared → Prop) => (hR : RestC w 870 f ⟨foc, fod, .func ffd, fsl⟩ R Dm Inv) → (hY : LayC w 870 g ⟨goc, god, .func gfd, gsl⟩ Y need) → (hc : (lc, W.listOf cvs.toArray cc) ∈ own) → (hcv : F2 TxtV code cvs) → (hf : (lf, W.listOf fvs.toArray cf) ∈ own) → (hfv : F2 TxtV fresh fvs) → (hm : (lm, om) ∈ own) → (hmd : om.IsDictOf (PySem.strKind P0 w) mkv) → (hmv : DV msgs mkv) → (hfin : ∀ wd ∈ fresh, look msgs wd ≠ none) → (hml : ∀ k x, look msgs k = some x → x.length ≤ 200) → (hDm : ∀ wd ∈ fresh, ∀ c ∈ code, Dm wd c ∧ Dm c wd ∧ (R wd c).length ≤ 200 ∧ (R c wd).length ≤ 200) → (hI : Inv kb bs) → (hkb : kb + 2 * code.length * fresh.length < 1000000) → (hap : Apart own bs) → (hneed : ∀ p ∈ need, p ∈ own) → FnG w 860 154 [.ref lc, .ref lf, .ref lm, .ref f, .ref g] (own ++ bs) (RestsP w R Y code fresh msgs Inv kb own) p loose mean mg mb dp un gd cn cs a ccd cl outer A₀ base h₀ L m s Q E) e0.1 e0.2.1 e0.2.2.1 e0.2.2.2.1 e0.2.2.2.2.1 e0.2.2.2.2.2.1 e0.2.2.2.2.2.2.1 e0.2.2.2.2.2.2.2.1 e0.2.2.2.2.2.2.2.2.1 e0.2.2.2.2.2.2.2.2.2.1 e0.2.2.2.2.2.2.2.2.2.2.1 e0.2.2.2.2.2.2.2.2.2.2.2.1 e0.2.2.2.2.2.2.2.2.2.2.2.2.1 e0.2.2.2.2.2.2.2.2.2.2.2.2.2.1 e0.2.2.2.2.2.2.2.2.2.2.2.2.2.2.1 e0.2.2.2.2.2.2.2.2.2.2.2.2.2.2.2.1 e0.2.2.2.2.2.2.2.2.2.2.2.2.2.2.2.2.1 e0.2.2.2.2.2.2.2.2.2.2.2.2.2.2.2.2.2.1 e0.2.2.2.2.2.2.2.2.2.2.2.2.2.2.2.2.2.2.1 e0.2.2.2.2.2.2.2.2.2.2.2.2.2.2.2.2.2.2.2.1 e0.2.2.2.2.2.2.2.2.2.2.2.2.2.2.2.2.2.2.2.2.1 e0.2.2.2.2.2.2.2.2.2.2.2.2.2.2.2.2.2.2.2.2.2.1 e0.2.2.2.2.2.2.2.2.2.2.2.2.2.2.2.2.2.2.2.2.2.2.1 e0.2.2.2.2.2.2.2.2.2.2.2.2.2.2.2.2.2.2.2.2.2.2.2.1 e0.2.2.2.2.2.2.2.2.2.2.2.2.2.2.2.2.2.2.2.2.2.2.2.2.1 e0.2.2.2.2.2.2.2.2.2.2.2.2.2.2.2.2.2.2.2.2.2.2.2.2.2.1 e0.2.2.2.2.2.2.2.2.2.2.2.2.2.2.2.2.2.2.2.2.2.2.2.2.2.2.1 e0.2.2.2.2.2.2.2.2.2.2.2.2.2.2.2.2.2.2.2.2.2.2.2.2.2.2.2.1 e0.2.2.2.2.2.2.2.2.2.2.2.2.2.2.2.2.2.2.2.2.2.2.2.2.2.2.2.2.1 e0.2.2.2.2.2.2.2.2.2.2.2.2.2.2.2.2.2.2.2.2.2.2.2.2.2.2.2.2.2.1 e0.2.2.2.2.2.2.2.2.2.2.2.2.2.2.2.2.2.2.2.2.2.2.2.2.2.2.2.2.2.2.1 e0.2.2.2.2.2.2.2.2.2.2.2.2.2.2.2.2.2.2.2.2.2.2.2.2.2.2.2.2.2.2.2.1 e0.2.2.2.2.2.2.2.2.2.2.2.2.2.2.2.2.2.2.2.2.2.2.2.2.2.2.2.2.2.2.2.2.1 e0.2.2.2.2.2.2.2.2.2.2.2.2.2.2.2.2.2.2.2.2.2.2.2.2.2.2.2.2.2.2.2.2.2.1 e0.2.2.2.2.2.2.2.2.2.2.2.2.2.2.2.2.2.2.2.2.2.2.2.2.2.2.2.2.2.2.2.2.2.2.1 e0.2.2.2.2.2.2.2.2.2.2.2.2.2.2.2.2.2.2.2.2.2.2.2.2.2.2.2.2.2.2.2.2.2.2.2.1 e0.2.2.2.2.2.2.2.2.2.2.2.2.2.2.2.2.2.2.2.2.2.2.2.2.2.2.2.2.2.2.2.2.2.2.2.2.1 e0.2.2.2.2.2.2.2.2.2.2.2.2.2.2.2.2.2.2.2.2.2.2.2.2.2.2.2.2.2.2.2.2.2.2.2.2.2.1 e0.2.2.2.2.2.2.2.2.2.2.2.2.2.2.2.2.2.2.2.2.2.2.2.2.2.2.2.2.2.2.2.2.2.2.2.2.2.2.1 e0.2.2.2.2.2.2.2.2.2.2.2.2.2.2.2.2.2.2.2.2.2.2.2.2.2.2.2.2.2.2.2.2.2.2.2.2.2.2.2.1 e0.2.2.2.2.2.2.2.2.2.2.2.2.2.2.2.2.2.2.2.2.2.2.2.2.2.2.2.2.2.2.2.2.2.2.2.2.2.2.2.2.1 e0.2.2.2.2.2.2.2.2.2.2.2.2.2.2.2.2.2.2.2.2.2.2.2.2.2.2.2.2.2.2.2.2.2.2.2.2.2.2.2.2.2.1 e0.2.2.2.2.2.2.2.2.2.2.2.2.2.2.2.2.2.2.2.2.2.2.2.2.2.2.2.2.2.2.2.2.2.2.2.2.2.2.2.2.2.2.1 e0.2.2.2.2.2.2.2.2.2.2.2.2.2.2.2.2.2.2.2.2.2.2.2.2.2.2.2.2.2.2.2.2.2.2.2.2.2.2.2.2.2.2.2.1 e0.2.2.2.2.2.2.2.2.2.2.2.2.2.2.2.2.2.2.2.2.2.2.2.2.2.2.2.2.2.2.2.2.2.2.2.2.2.2.2.2.2.2.2.2.1 e0.2.2.2.2.2.2.2.2.2.2.2.2.2.2.2.2.2.2.2.2.2.2.2.2.2.2.2.2.2.2.2.2.2.2.2.2.2.2.2.2.2.2.2.2.2.1 e0.2.2.2.2.2.2.2.2.2.2.2.2.2.2.2.2.2.2.2.2.2.2.2.2.2.2.2.2.2.2.2.2.2.2.2.2.2.2.2.2.2.2.2.2.2.2.1 e0.2.2.2.2.2.2.2.2.2.2.2.2.2.2.2.2.2.2.2.2.2.2.2.2.2.2.2.2.2.2.2.2.2.2.2.2.2.2.2.2.2.2.2.2.2.2.2.1 e0.2.2.2.2.2.2.2.2.2.2.2.2.2.2.2.2.2.2.2.2.2.2.2.2.2.2.2.2.2.2.2.2.2.2.2.2.2.2.2.2.2.2.2.2.2.2.2.2.1 e0.2.2.2.2.2.2.2.2.2.2.2.2.2.2.2.2.2.2.2.2.2.2.2.2.2.2.2.2.2.2.2.2.2.2.2.2.2.2.2.2.2.2.2.2.2.2.2.2.2.1 e0.2.2.2.2.2.2.2.2.2.2.2.2.2.2.2.2.2.2.2.2.2.2.2.2.2.2.2.2.2.2.2.2.2.2.2.2.2.2.2.2.2.2.2.2.2.2.2.2.2.2.1 e0.2.2.2.2.2.2.2.2.2.2.2.2.2.2.2.2.2.2.2.2.2.2.2.2.2.2.2.2.2.2.2.2.2.2.2.2.2.2.2.2.2.2.2.2.2.2.2.2.2.2.2.1 e0.2.2.2.2.2.2.2.2.2.2.2.2.2.2.2.2.2.2.2.2.2.2.2.2.2.2.2.2.2.2.2.2.2.2.2.2.2.2.2.2.2.2.2.2.2.2.2.2.2.2.2.2
noncomputable def q : Par := pick ne Goal
@[irreducible] noncomputable def w : World := q.1
@[irreducible] noncomputable def f : Addr := q.2.1
@[irreducible] noncomputable def g : Addr := q.2.2.1
@[irreducible] noncomputable def foc : Value := q.2.2.2.1
@[irreducible] noncomputable def goc : Value := q.2.2.2.2.1
@[irreducible] noncomputable def fod : Option Addr := q.2.2.2.2.2.1
@[irreducible] noncomputable def god : Option Addr := q.2.2.2.2.2.2.1
@[irreducible] noncomputable def ffd : FuncData := q.2.2.2.2.2.2.2.1
@[irreducible] noncomputable def gfd : FuncData := q.2.2.2.2.2.2.2.2.1
@[irreducible] noncomputable def fsl : Array (Option Value) := q.2.2.2.2.2.2.2.2.2.1
@[irreducible] noncomputable def gsl : Array (Option Value) := q.2.2.2.2.2.2.2.2.2.2.1
@[irreducible] noncomputable def R : List Nat → List Nat → List Nat := q.2.2.2.2.2.2.2.2.2.2.2.1
@[irreducible] noncomputable def Y : List Nat → List Nat → List Nat := q.2.2.2.2.2.2.2.2.2.2.2.2.1
@[irreducible] noncomputable def Dm : List Nat → List Nat → Prop := q.2.2.2.2.2.2.2.2.2.2.2.2.2.1
@[irreducible] noncomputable def Inv : Nat → Led → Prop := q.2.2.2.2.2.2.2.2.2.2.2.2.2.2.1
@[irreducible] noncomputable def need : Led := q.2.2.2.2.2.2.2.2.2.2.2.2.2.2.2.1
@[irreducible] noncomputable def lc : Addr := q.2.2.2.2.2.2.2.2.2.2.2.2.2.2.2.2.1
@[irreducible] noncomputable def lf : Addr := q.2.2.2.2.2.2.2.2.2.2.2.2.2.2.2.2.2.1
@[irreducible] noncomputable def lm : Addr := q.2.2.2.2.2.2.2.2.2.2.2.2.2.2.2.2.2.2.1
@[irreducible] noncomputable def cc : Nat := q.2.2.2.2.2.2.2.2.2.2.2.2.2.2.2.2.2.2.2.1
@[irreducible] noncomputable def cf : Nat := q.2.2.2.2.2.2.2.2.2.2.2.2.2.2.2.2.2.2.2.2.1
@[irreducible] noncomputable def code : List (List Nat) := q.2.2.2.2.2.2.2.2.2.2.2.2.2.2.2.2.2.2.2.2.2.1
@[irreducible] noncomputable def fresh : List (List Nat) := q.2.2.2.2.2.2.2.2.2.2.2.2.2.2.2.2.2.2.2.2.2.2.1
@[irreducible] noncomputable def cvs : List Value := q.2.2.2.2.2.2.2.2.2.2.2.2.2.2.2.2.2.2.2.2.2.2.2.1
@[irreducible] noncomputable def fvs : List Value := q.2.2.2.2.2.2.2.2.2.2.2.2.2.2.2.2.2.2.2.2.2.2.2.2.1
@[irreducible] noncomputable def msgs : List (List Nat × List Nat) := q.2.2.2.2.2.2.2.2.2.2.2.2.2.2.2.2.2.2.2.2.2.2.2.2.2.1
@[irreducible] noncomputable def mkv : List (PySem.Str × Value) := q.2.2.2.2.2.2.2.2.2.2.2.2.2.2.2.2.2.2.2.2.2.2.2.2.2.2.1
@[irreducible] noncomputable def om : Obj := q.2.2.2.2.2.2.2.2.2.2.2.2.2.2.2.2.2.2.2.2.2.2.2.2.2.2.2.1
@[irreducible] noncomputable def own : Led := q.2.2.2.2.2.2.2.2.2.2.2.2.2.2.2.2.2.2.2.2.2.2.2.2.2.2.2.2.1
@[irreducible] noncomputable def bs : Led := q.2.2.2.2.2.2.2.2.2.2.2.2.2.2.2.2.2.2.2.2.2.2.2.2.2.2.2.2.2.1
@[irreducible] noncomputable def kb : Nat := q.2.2.2.2.2.2.2.2.2.2.2.2.2.2.2.2.2.2.2.2.2.2.2.2.2.2.2.2.2.2.1
@[irreducible] noncomputable def p : Program := q.2.2.2.2.2.2.2.2.2.2.2.2.2.2.2.2.2.2.2.2.2.2.2.2.2.2.2.2.2.2.2.1
@[irreducible] noncomputable def loose : List PySem.Str := q.2.2.2.2.2.2.2.2.2.2.2.2.2.2.2.2.2.2.2.2.2.2.2.2.2.2.2.2.2.2.2.2.1
@[irreducible] noncomputable def mean : ExcName → Option Value := q.2.2.2.2.2.2.2.2.2.2.2.2.2.2.2.2.2.2.2.2.2.2.2.2.2.2.2.2.2.2.2.2.2.1
@[irreducible] noncomputable def mg : PySem.Str → Option Value := q.2.2.2.2.2.2.2.2.2.2.2.2.2.2.2.2.2.2.2.2.2.2.2.2.2.2.2.2.2.2.2.2.2.2.1
@[irreducible] noncomputable def mb : PySem.Str → Option Value := q.2.2.2.2.2.2.2.2.2.2.2.2.2.2.2.2.2.2.2.2.2.2.2.2.2.2.2.2.2.2.2.2.2.2.2.1
@[irreducible] noncomputable def dp : Nat := q.2.2.2.2.2.2.2.2.2.2.2.2.2.2.2.2.2.2.2.2.2.2.2.2.2.2.2.2.2.2.2.2.2.2.2.2.1
@[irreducible] noncomputable def un : Nat := q.2.2.2.2.2.2.2.2.2.2.2.2.2.2.2.2.2.2.2.2.2.2.2.2.2.2.2.2.2.2.2.2.2.2.2.2.2.1
@[irreducible] noncomputable def gd : Option (List Code) := q.2.2.2.2.2.2.2.2.2.2.2.2.2.2.2.2.2.2.2.2.2.2.2.2.2.2.2.2.2.2.2.2.2.2.2.2.2.2.1
@[irreducible] noncomputable def cn : PySem.Str := q.2.2.2.2.2.2.2.2.2.2.2.2.2.2.2.2.2.2.2.2.2.2.2.2.2.2.2.2.2.2.2.2.2.2.2.2.2.2.2.1
@[irreducible] noncomputable def cs : Scope := q.2.2.2.2.2.2.2.2.2.2.2.2.2.2.2.2.2.2.2.2.2.2.2.2.2.2.2.2.2.2.2.2.2.2.2.2.2.2.2.2.1
@[irreducible] noncomputable def a : Addr := q.2.2.2.2.2.2.2.2.2.2.2.2.2.2.2.2.2.2.2.2.2.2.2.2.2.2.2.2.2.2.2.2.2.2.2.2.2.2.2.2.2.1
@[irreducible] noncomputable def ccd : Value := q.2.2.2.2.2.2.2.2.2.2.2.2.2.2.2.2.2.2.2.2.2.2.2.2.2.2.2.2.2.2.2.2.2.2.2.2.2.2.2.2.2.2.1
@[irreducible] noncomputable def cl : List (PySem.Str × Addr) := q.2.2.2.2.2.2.2.2.2.2.2.2.2.2.2.2.2.2.2.2.2.2.2.2.2.2.2.2.2.2.2.2.2.2.2.2.2.2.2.2.2.2.2.1
@[irreducible] noncomputable def outer : List Env := q.2.2.2.2.2.2.2.2.2.2.2.2.2.2.2.2.2.2.2.2.2.2.2.2.2.2.2.2.2.2.2.2.2.2.2.2.2.2.2.2.2.2.2.2.1
@[irreducible] noncomputable def A₀ : Around := q.2.2.2.2.2.2.2.2.2.2.2.2.2.2.2.2.2.2.2.2.2.2.2.2.2.2.2.2.2.2.2.2.2.2.2.2.2.2.2.2.2.2.2.2.2.1
@[irreducible] noncomputable def base : Heap := q.2.2.2.2.2.2.2.2.2.2.2.2.2.2.2.2.2.2.2.2.2.2.2.2.2.2.2.2.2.2.2.2.2.2.2.2.2.2.2.2.2.2.2.2.2.2.1
@[irreducible] noncomputable def h₀ : Heap := q.2.2.2.2.2.2.2.2.2.2.2.2.2.2.2.2.2.2.2.2.2.2.2.2.2.2.2.2.2.2.2.2.2.2.2.2.2.2.2.2.2.2.2.2.2.2.2.1
@[irreducible] noncomputable def L : Addr := q.2.2.2.2.2.2.2.2.2.2.2.2.2.2.2.2.2.2.2.2.2.2.2.2.2.2.2.2.2.2.2.2.2.2.2.2.2.2.2.2.2.2.2.2.2.2.2.2.1
@[irreducible] noncomputable def m : PySem.Str → Option Value := q.2.2.2.2.2.2.2.2.2.2.2.2.2.2.2.2.2.2.2.2.2.2.2.2.2.2.2.2.2.2.2.2.2.2.2.2.2.2.2.2.2.2.2.2.2.2.2.2.2.1
@[irreducible] noncomputable def s : Shared := q.2.2.2.2.2.2.2.2.2.2.2.2.2.2.2.2.2.2.2.2.2.2.2.2.2.2.2.2.2.2.2.2.2.2.2.2.2.2.2.2.2.2.2.2.2.2.2.2.2.2.1
@[irreducible] noncomputable def Q : Value → Shared → Prop := q.2.2.2.2.2.2.2.2.2.2.2.2.2.2.2.2.2.2.2.2.2.2.2.2.2.2.2.2.2.2.2.2.2.2.2.2.2.2.2.2.2.2.2.2.2.2.2.2.2.2.2.1
@[irreducible] noncomputable def E : Value → Shared → Prop := q.2.2.2.2.2.2.2.2.2.2.2.2.2.2.2.2.2.2.2.2.2.2.2.2.2.2.2.2.2.2.2.2.2.2.2.2.2.2.2.2.2.2.2.2.2.2.2.2.2.2.2.2
noncomputable def BH (g₉ : Heap) (l₉ : Addr) (h₉ : Heap) (t₉ : Nat) : Prop := BodyH w 154 153 25 [(PySem.Str.ofString "lay", .ref g), (PySem.Str.ofString "rest", .ref f), (PySem.Str.ofString "messages", .ref lm), (PySem.Str.ofString "fresh", .ref lf), (PySem.Str.ofString "code", .ref lc)] (own ++ bs) p loose mean mg mb dp un gd cn cs a ccd cl outer base h₀ L m s Q E (rfl : stm 25 = _) g₉ l₉ h₉ t₉
noncomputable def ev : EV := pick evne (fun e => BH e.g e.l e.h e.t)
@[irreducible] noncomputable def g' : Heap := ev.g
@[irreducible] noncomputable def L' : Addr := ev.l
@[irreducible] noncomputable def h' : Heap := ev.h
@[irreducible] noncomputable def tk' : Nat := ev.t
theorem body (hR : RestC w 870 f ⟨foc, fod, .func ffd, fsl⟩ R Dm Inv) (hY : LayC w 870 g ⟨goc, god, .func gfd, gsl⟩ Y need) (hc : (lc, W.listOf cvs.toArray cc) ∈ own) (hcv : F2 TxtV code cvs) (hf : (lf, W.listOf fvs.toArray cf) ∈ own) (hfv : F2 TxtV fresh fvs) (hm : (lm, om) ∈ own) (hmd : om.IsDictOf (PySem.strKind P0 w) mkv) (hmv : DV msgs mkv) (hfin : ∀ wd ∈ fresh, look msgs wd ≠ none) (hml : ∀ k x, look msgs k = some x → x.length ≤ 200) (hDm : ∀ wd ∈ fresh, ∀ c ∈ code, Dm wd c ∧ Dm c wd ∧ (R wd c).length ≤ 200 ∧ (R c wd).length ≤ 200) (hI : Inv kb bs) (hkb : kb + 2 * code.length * fresh.length < 1000000) (hap : Apart own bs) (hneed : ∀ p ∈ need, p ∈ own) (B : Below A₀ base outer h₀) (X : (K0 w.params).In h₀) (T : Top p loose mean mg mb h₀) (C1 : CodeHd h₀ 61 57) (C2 : CodeHd h₀ 170 168) (hk : cs.kind = .function) (hd : dp < 860) (hu : un < 8 * 860) (hret : ∀ r news' h' tk', Fr h₀ L h' m → News h₀ L h' news' → ((RestsP w R Y code fresh msgs Inv kb own)) r news' → Q r { s with heap := h', toks := tk' }) : BH g' L' h' tk' := by
  have yc : Clo := .mk
  w_on
  intro F' N' B' X' T' C1' C2' lt'
  (try dsimp only)
  k_steps
  rename_i d _ o l1 lo hdo fp1 hdi fp2 _ F1 N1
  clear fp1 hdi fp2
  refine Stop.go (For_turns F1 ?_)
  k_steps
  have hmem : ∀ {x : Addr × Obj} {b : Led}, x ∈ own → x ∈ (own ++ b) := fun h => List.mem_append_left _ h
  refine Stop.go (for_list2 (n := cf) (vs := fvs) (fun i m' n' => DJ w Inv [PySem.Str.ofString "word", PySem.Str.ofString "one", PySem.Str.ofString "more", PySem.Str.ofString "less"] _ m' ((fresh.take i).foldl (step1 R Y code msgs) []) (kb + 2 * code.length * i) d own n') rfl (by assumption) (by assumption) (List.mem_cons_of_mem _ (hmem hf)) ⟨fun _ _ => rfl, o, [], bs, kb, by assumption, .nil, hI, Nat.le_refl _, Apart.cons (fun p hp => Nat.ne_of_lt (l1 p (List.mem_append_right _ hp))) hap, rfl⟩ ?keep ?step ?done)
  case keep =>
    intro i m' n'
    intro zz1
    obtain ⟨zz2, o', kvs, b', k', zz3, zz4, zz5, zz6, zz7, zz8⟩ := zz1
    revert zz2 o' kvs b' k' zz3 zz4 zz5 zz6 zz7 zz8
    intro _ o' kvs b' k' _ _ _ _ _ zz8
    subst zz8
    exact List.mem_cons_of_mem _ (hmem hf)
  case done =>
    intro m' n' h' tk'
    intro zz9
    obtain ⟨hk', o', kvs, b', k', h1, h2, h3, h4, h5, zz10⟩ := zz9
    revert hk' o' kvs b' k' h1 h2 h3 h4 h5 zz10
    intro hk' o' kvs b' k' h1 h2 h3 h4 h5 zz10
    subst zz10
    intro F' N'
    have F2 := fr_to F' (mapK_eq hk')
    clear F'
    dsimp only [mapK] at F2
    k_steps
    rw [← hfv.length, List.take_length] at h2
    rw [← hfv.length] at h4
    exact hret _ _ _ _ (by assumption) (by assumption) ⟨d, o', kvs, b', k', rfl, h1, h2, h3, h4, h5, fun p hp => l1 p (hmem hp), rfl⟩
  case step =>
    refine cl9 ?_; generalize cl9_1 _ _ = i, cl9_2 _ _ = v, cl9_3 _ _ = m', cl9_4 _ _ = n', cl9_5 _ _ = h', cl9_6 _ _ = tk', cl9_7 _ _ = I, cl9_8 _ _ = oI, cl9_9 _ _ = Q4
    intro hv
    intro zz11
    obtain ⟨hk', o', kvs, b', k', h1, h2, h3, h4, h5, zz12⟩ := zz11
    revert hk' o' kvs b' k' h1 h2 h3 h4 h5 zz12
    intro hk' o' kvs b' k' h1 h2 h3 h4 h5 zz12
    subst zz12
    intro hoff F' N0 hQ4
    clear F1 N1
    have F2 := fr_to F' (mapK_eq hk')
    clear F'
    dsimp only [mapK] at F2
    have hlt : i < fresh.length := by
      rw [hfv.length]
      rcases Nat.lt_or_ge i fvs.length with h | h
      · exact h
      · rw [List.getElem?_eq_none h] at hv; cases hv
    obtain ⟨wd, hwd⟩ : ∃ wd, fresh[i]? = some wd := ⟨_, List.getElem?_eq_getElem hlt⟩
    revert wd hwd
    intro wd hwd
    obtain ⟨zz13, e1, tw, zz14⟩ := hfv.get i hwd
    revert zz13 e1 tw zz14
    intro _ e1 tw zz14
    subst zz14
    rw [hv] at e1
    cases e1
    have hwm : wd ∈ fresh := List.mem_of_getElem? hwd
    have hms : ∃ msg, look msgs wd = some msg := Option.ne_none_iff_exists'.mp (hfin wd hwm)
    obtain ⟨msg, hms⟩ := hms
    revert msg hms
    intro msg hms
    have hfold : (fresh.take (i + 1)).foldl (step1 R Y code msgs) [] = code.foldl (step2 R Y msg wd) ((fresh.take i).foldl (step1 R Y code msgs) []) := by
      rw [List.take_add_one, hwd, List.foldl_append]
      show step1 R Y code msgs _ wd = _
      unfold step1
      rw [hms]; rfl
    k_steps
    rename_i F1 N1
    refine Stop.go (For_turns F1 ?_)
    k_steps
    refine Stop.go (for_list2 (n := cc) (vs := cvs) (fun j m' n' => DJI w Inv [PySem.Str.ofString "one", PySem.Str.ofString "more", PySem.Str.ofString "less"] _ m' ((code.take j).foldl (step2 R Y msg wd) ((fresh.take i).foldl (step1 R Y code msgs) [])) (kb + 2 * code.length * i + 2 * j) I oI d own n') rfl (by assumption) (by assumption) (List.mem_cons_of_mem _ (List.mem_cons_of_mem _ (hmem hc))) ⟨fun _ _ => rfl, o', kvs, b', k', h1, h2, h3, h4, Apart.cons (fun p hp => hoff p (List.mem_cons_of_mem _ (List.mem_append_right _ hp))) h5, rfl⟩ ?keep2 ?step2 ?done2)
    case keep2 =>
      intro j m' n'
      intro zz15
      obtain ⟨zz16, o2, kvs2, b2, k2, zz17, zz18, zz19, zz20, zz21, zz22⟩ := zz15
      revert zz16 o2 kvs2 b2 k2 zz17 zz18 zz19 zz20 zz21 zz22
      intro _ o2 kvs2 b2 k2 _ _ _ _ _ zz22
      subst zz22
      exact List.mem_cons_of_mem _ (List.mem_cons_of_mem _ (hmem hc))
    case done2 =>
      intro m2 n2 h' tk'
      intro zz23
      obtain ⟨hk2, o2, kvs2, b2, k2, g1, g2, g3, g4, g5, zz24⟩ := zz23
      revert hk2 o2 kvs2 b2 k2 g1 g2 g3 g4 g5 zz24
      intro hk2 o2 kvs2 b2 k2 g1 g2 g3 g4 g5 zz24
      subst zz24
      intro F' N'
      have F3 := fr_to F' (mapK_eq hk2)
      clear F' F2
      dsimp only [mapK] at F3
      rw [← hcv.length, List.take_length, ← hfold] at g2
      rw [← hcv.length] at g4
      k_steps
      refine AgainF.next (by assumption) (by assumption) (Sub.cons List.mem_cons_self (fun _ h => nomatch h)) (Sub.skip Sub.refl) ?off ⟨by k_extra "kept", o2, kvs2, b2, k2, g1, g2, g3, ?lek, g5.tail, rfl⟩
      case lek => rw [Nat.mul_add]; omega
      case off =>
        intro p hp q hq
        rw [List.mem_singleton.mp hq]
        rcases List.mem_cons.mp hp with rfl | hp
        · exact hoff (d, o') List.mem_cons_self
        · rcases List.mem_append.mp hp with hp | hp
          · exact hoff p (List.mem_cons_of_mem _ (List.mem_append_left _ hp))
          · exact g5.head p hp
    case step2 =>
      refine cl9 ?_; generalize cl9_1 _ _ = j, cl9_2 _ _ = v, cl9_3 _ _ = m2, cl9_4 _ _ = n2, cl9_5 _ _ = h', cl9_6 _ _ = tk', cl9_7 _ _ = I2, cl9_8 _ _ = oI2, cl9_9 _ _ = Q5
      intro hv2
      intro zz25
      obtain ⟨hk2, o2, kvs2, b2, k2, g1, g2, g3, g4, g5, zz26⟩ := zz25
      revert hk2 o2 kvs2 b2 k2 g1 g2 g3 g4 g5 zz26
      intro hk2 o2 kvs2 b2 k2 g1 g2 g3 g4 g5 zz26
      subst zz26
      intro hoff2 F' N' hQ5
      clear F1 N1 N0 F2
      have F3 := fr_to F' (mapK_eq hk2)
      clear F'
      dsimp only [mapK] at F3
      have hlt2 : j < code.length := by
        rw [hcv.length]
        rcases Nat.lt_or_ge j cvs.length with h | h
        · exact h
        · rw [List.getElem?_eq_none h] at hv2; cases hv2
      obtain ⟨c, hcj⟩ : ∃ c, code[j]? = some c := ⟨_, List.getElem?_eq_getElem hlt2⟩
      revert c hcj
      intro c hcj
      obtain ⟨zz27, e1, tc, zz28⟩ := hcv.get j hcj
      revert zz27 e1 tc zz28
      intro _ e1 tc zz28
      subst zz28
      rw [hv2] at e1
      cases e1
      have hcm : c ∈ code := List.mem_of_getElem? hcj
      obtain ⟨hD1, hD2, hD3, hD4⟩ := hDm wd hwm c hcm
      revert hD1 hD2 hD3 hD4
      intro hD1 hD2 hD3 hD4
      have hfold2 : (code.take (j + 1)).foldl (step2 R Y msg wd) ((fresh.take i).foldl (step1 R Y code msgs) []) = step2 R Y msg wd ((code.take j).foldl (step2 R Y msg wd) ((fresh.take i).foldl (step1 R Y code msgs) [])) c := by
        rw [List.take_add_one, hcj, List.foldl_append]; rfl
      have hle : 2 * code.length * i + 2 * j + 2 ≤ 2 * code.length * fresh.length := by
        have h1 : 2 * code.length * (i + 1) ≤ 2 * code.length * fresh.length := Nat.mul_le_mul_left _ hlt
        rw [Nat.mul_add] at h1
        omega
      have ap2 : Apart ((I2, oI2) :: (I, oI) :: (d, o2) :: own) b2 := Apart.cons (fun p hp => hoff2 p (List.mem_cons_of_mem _ (List.mem_cons_of_mem _ (List.mem_append_right _ hp)))) g5
      have hff := hR.mem _ _ g3
      have hff2 : (f, (⟨foc, fod, .func ffd, fsl⟩ : Obj)) ∈ own ++ b2 := List.mem_append_right _ hff
      k_steps
      refine Stop.go ?_
      refine fn_use (hR.call k2 b2 ((I2, oI2) :: (I, oI) :: (d, o2) :: own) wd c _ _ g3 (by omega) ap2 hD1) (by assumption) (by assumption) X' (by assumption) T' C1' C2' (by rfl) (by k_extra "dep") (by k_extra "dep") ?_
      intro r' n' h' tk' F' N'
      intro zz29
      obtain ⟨zz30, b3, g6, g7, zz31⟩ := zz29
      revert zz30 b3 g6 g7 zz31
      intro zz30 b3 g6 g7 zz31
      subst zz31
      obtain ⟨t5, zz32⟩ := zz30
      revert t5 zz32
      intro t5 zz32
      subst zz32
      dsimp only [List.cons_append] at N' ⊢
      k_steps
      refine Stop.go ?_
      have hgg2 : ∀ {b : Led}, (g, (⟨goc, god, .func gfd, gsl⟩ : Obj)) ∈ own ++ b := fun {b} => List.mem_append_left _ (hneed _ hY.mem)
      have hgb := hgg2 (b := b3)
      have hlm2 : (lm, om) ∈ own ++ b3 := hmem hm
      obtain ⟨tm, hmv2⟩ : ∃ tm, valueAt mkv (tx wd) = some (.str (tx msg) tm) := by
        rcases hmv.at wd with ⟨h, _⟩ | ⟨x, t, h, h'⟩
        · rw [hms] at h; cases h
        · rw [hms] at h; cases h; exact ⟨t, h'⟩
      revert tm hmv2
      intro tm hmv2
      have hne1 : ∀ p ∈ own ++ b3, p.1 ≠ d := fun p hp => (List.mem_append.mp hp).elim (fun h => Nat.ne_of_lt (l1 p (hmem h))) (fun h => g7 (d, o2) (by simp) p h)
      have hI1 : @Ne Nat I d := fun e => hoff (d, o') List.mem_cons_self e.symm
      have hI2 : @Ne Nat I2 d := fun e => hoff2 (d, o2) (by simp) e.symm
      have hfl : ((code.take j).foldl (step2 R Y msg wd) ((fresh.take i).foldl (step1 R Y code msgs) [])).length ≤ 1000000 := by
        have h1 := fold2_len R Y msg wd (code.take j) ((fresh.take i).foldl (step1 R Y code msgs) [])
        have h2 := fold1_len R Y code msgs (fresh.take i) []
        rw [List.length_take, Nat.min_eq_left (Nat.le_of_lt hlt2)] at h1
        rw [List.length_take, Nat.min_eq_left (Nat.le_of_lt hlt)] at h2
        simp only [List.length_nil] at h2
        omega
      refine cut_fr (by assumption) (fun n' => ∃ o3 kvs3, o3.IsDictOf (PySem.strKind P0 w) kvs3 ∧ DV (if R wd c ≠ [] ∧ look ((code.take j).foldl (step2 R Y msg wd) ((fresh.take i).foldl (step1 R Y code msgs) [])) (R wd c) = none then ((code.take j).foldl (step2 R Y msg wd) ((fresh.take i).foldl (step1 R Y code msgs) [])) ++ [(R wd c, Y msg (R wd c))] else ((code.take j).foldl (step2 R Y msg wd) ((fresh.take i).foldl (step1 R Y code msgs) []))) kvs3 ∧ n' = (I2, oI2) :: (I, oI) :: (d, o3) :: (own ++ b3)) ?_ ?_
      · refine wpAny_If ?_
        generalize hfd : (code.take j).foldl (step2 R Y msg wd) ((fresh.take i).foldl (step1 R Y code msgs) []) = fd at *
        cases hb1 : !(R wd c).isEmpty with
        | false =>
          have he : R wd c = [] := by simpa using hb1
          k_steps
          exact CutEnd.mk (by assumption) (by assumption) ⟨o2, kvs2, g1, by rw [if_neg (fun h => h.1 he)]; exact g2, rfl⟩
        | true =>
          have he : R wd c ≠ [] := by simpa using hb1
          rcases g2.at (R wd c) with zz33 | zz34
          · obtain ⟨q1, q2⟩ := zz33
            revert q1 q2
            intro q1 q2
            have q3 : (valueAt kvs2 (tx (R wd c))).isSome = false := by rw [q2]; rfl
            k_steps
            refine Stop.go ?_
            refine fn_use (hY.call ((I2, oI2) :: (I, oI) :: (d, o2) :: (own ++ b3)) msg (R wd c) _ _ (fun p hp => List.mem_cons_of_mem _ (List.mem_cons_of_mem _ (List.mem_cons_of_mem _ (hmem (hneed p hp))))) (hml _ _ hms) hD3) (by assumption) (by assumption) X' (by assumption) T' C1' C2' (by rfl) (by k_extra "dep") (by k_extra "dep") ?_
            intro r' n' h' tk' F' N'
            intro zz35
            obtain ⟨zz36, zz37⟩ := zz35
            revert zz36 zz37
            intro zz36 zz37
            subst zz37
            obtain ⟨t6, zz38⟩ := zz36
            revert t6 zz38
            intro t6 zz38
            subst zz38
            dsimp only at N' ⊢
            have hsz2 : kvs2.length ≤ sizeLine := le_sizeLine (by rw [← g2.length]; omega)
            have hput := g2.put (x := Y msg (R wd c)) (t := t6) q2
            k_steps
            rename_i o3 _ _ hd3
            refine CutEnd.mk (by assumption) (by assumption) ⟨o3, _, hd3, by rw [if_pos ⟨he, q1⟩]; exact hput, rfl⟩
          · obtain ⟨x, t, q1, q2⟩ := zz34
            revert x t q1 q2
            intro x t q1 q2
            have q3 : (valueAt kvs2 (tx (R wd c))).isSome = true := by rw [q2]; rfl
            k_steps
            exact CutEnd.mk (by assumption) (by assumption) ⟨o2, kvs2, g1, by rw [if_neg (fun h => by rw [q1] at h; cases h.2)]; exact g2, rfl⟩
      · intro h' tk' n' F' N'
        intro zz39
        obtain ⟨o3, kvs3, g8, g9, zz40⟩ := zz39
        revert o3 kvs3 g8 g9 zz40
        intro o3 kvs3 g8 g9 zz40
        subst zz40
        have hff3 : (f, (⟨foc, fod, .func ffd, fsl⟩ : Obj)) ∈ own ++ b3 := List.mem_append_right _ (hR.mem _ _ g6)
        k_steps
        refine Stop.go ?_
        have ap3 : Apart ((I2, oI2) :: (I, oI) :: (d, o3) :: own) b3 := fun q hq p hp => by
          rcases List.mem_cons.mp hq with rfl | hq
          · exact g7 _ List.mem_cons_self p hp
          · rcases List.mem_cons.mp hq with rfl | hq
            · exact g7 (I, oI) (by simp) p hp
            · exact g7.tail.tail.set q hq p hp
        refine fn_use (hR.call (k2 + 1) b3 ((I2, oI2) :: (I, oI) :: (d, o3) :: own) c wd _ _ g6 (by omega) ap3 hD2) (by assumption) (by assumption) X' (by assumption) T' C1' C2' (by rfl) (by k_extra "dep") (by k_extra "dep") ?_
        intro r' n' h' tk' F' N'
        intro zz41
        obtain ⟨zz42, b4, g10, g11, zz43⟩ := zz41
        revert zz42 b4 g10 g11 zz43
        intro zz42 b4 g10 g11 zz43
        subst zz43
        obtain ⟨t7, zz44⟩ := zz42
        revert t7 zz44
        intro t7 zz44
        subst zz44
        dsimp only [List.cons_append] at N' ⊢
        have hlm3 : (lm, om) ∈ own ++ b4 := hmem hm
        have hne2 : ∀ p ∈ own ++ b4, p.1 ≠ d := fun p hp => (List.mem_append.mp hp).elim (fun h => Nat.ne_of_lt (l1 p (hmem h))) (fun h => g11 (d, o3) (by simp) p h)
        k_steps
        refine Stop.go ?_
        refine cut_fr (by assumption) (fun n' => ∃ o4 kvs4, o4.IsDictOf (PySem.strKind P0 w) kvs4 ∧ DV (step2 R Y msg wd ((code.take j).foldl (step2 R Y msg wd) ((fresh.take i).foldl (step1 R Y code msgs) [])) c) kvs4 ∧ n' = (I2, oI2) :: (I, oI) :: (d, o4) :: (own ++ b4)) ?_ ?_
        · refine wpAny_If ?_
          have hs2 : ∀ fd, step2 R Y msg wd fd c = if R c wd ≠ [] ∧ look (if R wd c ≠ [] ∧ look fd (R wd c) = none then fd ++ [(R wd c, Y msg (R wd c))] else fd) (R c wd) = none then (if R wd c ≠ [] ∧ look fd (R wd c) = none then fd ++ [(R wd c, Y msg (R wd c))] else fd) ++ [(R c wd, msg)] else (if R wd c ≠ [] ∧ look fd (R wd c) = none then fd ++ [(R wd c, Y msg (R wd c))] else fd) := fun _ => rfl
          rw [hs2]
          clear hs2 hfold2
          generalize hfd : (code.take j).foldl (step2 R Y msg wd) ((fresh.take i).foldl (step1 R Y code msgs) []) = fd at *
          have hfl1 : (if R wd c ≠ [] ∧ look fd (R wd c) = none then fd ++ [(R wd c, Y msg (R wd c))] else fd).length ≤ fd.length + 1 := by split <;> simp
          generalize hfd1 : (if R wd c ≠ [] ∧ look fd (R wd c) = none then fd ++ [(R wd c, Y msg (R wd c))] else fd) = fd1 at *
          cases hb1 : !(R c wd).isEmpty with
          | false =>
            have he : R c wd = [] := by simpa using hb1
            k_steps
            exact CutEnd.mk (by assumption) (by assumption) ⟨o3, kvs3, g8, by rw [if_neg (fun h => h.1 he)]; exact g9, rfl⟩
          | true =>
            have he : R c wd ≠ [] := by simpa using hb1
            rcases g9.at (R c wd) with zz45 | zz46
            · obtain ⟨q1, q2⟩ := zz45
              revert q1 q2
              intro q1 q2
              have q3 : (valueAt kvs3 (tx (R c wd))).isSome = false := by rw [q2]; rfl
              have hsz3 : kvs3.length ≤ sizeLine := le_sizeLine (by rw [← g9.length]; omega)
              have hput := g9.put (x := msg) (t := tm) q2
              k_steps
              rename_i o4 _ _ hd4
              refine CutEnd.mk (by assumption) (by assumption) ⟨o4, _, hd4, by rw [if_pos ⟨he, q1⟩]; exact hput, rfl⟩
            · obtain ⟨x, t, q1, q2⟩ := zz46
              revert x t q1 q2
              intro x t q1 q2
              have q3 : (valueAt kvs3 (tx (R c wd))).isSome = true := by rw [q2]; rfl
              k_steps
              exact CutEnd.mk (by assumption) (by assumption) ⟨o3, kvs3, g8, by rw [if_neg (fun h => by rw [q1] at h; cases h.2)]; exact g9, rfl⟩
        · intro h' tk' n' F' N'
          intro zz47
          obtain ⟨o4, kvs4, g12, g13, zz48⟩ := zz47
          revert o4 kvs4 g12 g13 zz48
          intro o4 kvs4 g12 g13 zz48
          subst zz48
          k_steps
          refine AgainF.next (by assumption) (by assumption) (Sub.cons List.mem_cons_self (fun _ h => nomatch h)) (Sub.skip Sub.refl) ?off2 ⟨by k_extra "kept", o4, kvs4, b4, k2 + 2, g12, ?g13, g10, by omega, ?ap4, rfl⟩
          case g13 => rw [hfold2]; exact g13
          case ap4 =>
            intro q hq p hp
            rcases List.mem_cons.mp hq with rfl | hq
            · exact g11 (I, oI) (by simp) p hp
            · exact g11.tail.tail.set q hq p hp
          case off2 =>
            intro p hp q hq
            rw [List.mem_singleton.mp hq]
            rcases List.mem_cons.mp hp with rfl | hp
            · exact hoff2 _ List.mem_cons_self
            · rcases List.mem_cons.mp hp with rfl | hp
              · exact hoff2 (d, o2) (by simp)
              · rcases List.mem_append.mp hp with hp | hp
                · exact hoff2 p (by simp [hp])
                · exact g11.head p hp
theorem main (hR : RestC w 870 f ⟨foc, fod, .func ffd, fsl⟩ R Dm Inv) (hY : LayC w 870 g ⟨goc, god, .func gfd, gsl⟩ Y need) (hc : (lc, W.listOf cvs.toArray cc) ∈ own) (hcv : F2 TxtV code cvs) (hf : (lf, W.listOf fvs.toArray cf) ∈ own) (hfv : F2 TxtV fresh fvs) (hm : (lm, om) ∈ own) (hmd : om.IsDictOf (PySem.strKind P0 w) mkv) (hmv : DV msgs mkv) (hfin : ∀ wd ∈ fresh, look msgs wd ≠ none) (hml : ∀ k x, look msgs k = some x → x.length ≤ 200) (hDm : ∀ wd ∈ fresh, ∀ c ∈ code, Dm wd c ∧ Dm c wd ∧ (R wd c).length ≤ 200 ∧ (R c wd).length ≤ 200) (hI : Inv kb bs) (hkb : kb + 2 * code.length * fresh.length < 1000000) (hap : Apart own bs) (hneed : ∀ p ∈ need, p ∈ own) : FnG w 860 154 [.ref lc, .ref lf, .ref lm, .ref f, .ref g] (own ++ bs) (RestsP w R Y code fresh msgs Inv kb own) p loose mean mg mb dp un gd cn cs a ccd cl outer A₀ base h₀ L m s Q E := by
  intro B F X N T C1 C2 hk hd hu hret
  refine wpAny_call ?_
  with_unfolding_all refine' code_my (binds := [(PySem.Str.ofString "lay", .ref g), (PySem.Str.ofString "rest", .ref f), (PySem.Str.ofString "messages", .ref lm), (PySem.Str.ofString "fresh", .ref lf), (PySem.Str.ofString "code", .ref lc)]) B F X N T C1 C2 ?kA ?kF ?kK ?ko ?est ?kcd ?kroom ?kbind ?kloc (fun g₁ l₁ h₁ t₁ _ => pick_all evne (P := fun e => BH e.g e.l e.h e.t) ?bd ⟨g₁, l₁, h₁, t₁⟩) ?kco ?kgen ?kkind ?kcell
  (case kA => exact rfl)
  (case kF => exact rfl)
  (case kK => exact hk)
  (case ko => k_is)
  (case est => exact rfl)
  (case kcd => k_is)
  (case kroom => (show dp < 1000; omega))
  (case kbind => exact BindsTo.of_eq rfl)
  (case kloc => exact locs rfl)
  (case kco => exact rfl)
  (case kgen => exact rfl)
  (case kkind => exact rfl)
  (case kcell => decide)
  (case bd => with_unfolding_all exact body hR hY hc hcv hf hfv hm hmd hmv hfin hml hDm hI hkb hap hneed B X T C1 C2 hk hd hu hret)
theorem goal_q : Goal q := by with_unfolding_all exact main
end Krests
theorem rests (w : World) (f g : Addr) (of og : Obj) (R Y : List Nat → List Nat → List Nat) (Dm : List Nat → List Nat → Prop) (Inv : Nat → Led → Prop) (need : Led) (hR : RestC w 870 f of R Dm Inv) (hY : LayC w 870 g og Y need)
    (lc lf lm : Addr) (cc cf : Nat) (code fresh : List (List Nat)) (cvs fvs : List Value) (msgs : List (List Nat × List Nat)) (mkv : List (PySem.Str × Value)) (om : Obj) (own bs : Led) (kb : Nat)
    (hc : (lc, W.listOf cvs.toArray cc) ∈ own) (hcv : F2 TxtV code cvs) (hf : (lf, W.listOf fvs.toArray cf) ∈ own) (hfv : F2 TxtV fresh fvs) (hm : (lm, om) ∈ own) (hmd : om.IsDictOf (PySem.strKind P0 w) mkv) (hmv : DV msgs mkv)
    (hfin : ∀ wd ∈ fresh, look msgs wd ≠ none) (hml : ∀ k x, look msgs k = some x → x.length ≤ 200) (hDm : ∀ wd ∈ fresh, ∀ c ∈ code, Dm wd c ∧ Dm c wd ∧ (R wd c).length ≤ 200 ∧ (R c wd).length ≤ 200)
    (hI : Inv kb bs) (hkb : kb + 2 * code.length * fresh.length < 1000000) (hap : Apart own bs) (hneed : ∀ p ∈ need, p ∈ own) :
    Fn w 860 154 [.ref lc, .ref lf, .ref lm, .ref f, .ref g] (own ++ bs) (RestsP w R Y code fresh msgs Inv kb own) := by
  obtain ⟨foc, fod, ffd, fsl, rfl⟩ := hR.fn
  obtain ⟨goc, god, gfd, gsl, rfl⟩ := hY.fn
  exact fun p loose mean mg mb dp un gd cn cs a ccd cl outer A₀ base h₀ L m s Q E => pick_all Krests.ne (P := Krests.Goal) Krests.goal_q ⟨w, f, g, foc, goc, fod, god, ffd, gfd, fsl, gsl, R, Y, Dm, Inv, need, lc, lf, lm, cc, cf, code, fresh, cvs, fvs, msgs, mkv, om, own, bs, kb, p, loose, mean, mg, mb, dp, un, gd, cn, cs, a, ccd, cl, outer, A₀, base, h₀, L, m, s, Q, E⟩ hR hY hc hcv hf hfv hm hmd hmv hfin hml hDm hI hkb hap hneed
end S_FRe
section S_Fr2
section
variable {prog : Program} {w : World} {A : Around} {E : Value → Shared → Prop} {s : Shared} {env : Env} {h₀ : Heap}
theorem letGo_ranger {target : Expr} {I : Addr} {x left step : Int} {v : Value} {Q' : Unit → Shared → Prop} {s' : Shared} (hit : IsRangeIter s'.heap I x left step) (h : Q' () s') :
    wpAny (model prog w) A (letOwnedTupleGo target (.ref I) v) Q' E s' := by
  unfold letOwnedTupleGo
  cases target <;> first
    | exact wpAny_pure h
    | (cases v <;> first
        | exact wpAny_pure h
        | (refine wpAny_bind (wpAny_load hit ?_)
           exact wpAny_pure h))
theorem for_range {target : Expr} {body : List Stmt} {Q : Flow → Shared → Prop} {r : Addr} {a b c : Int} {t u v : Tok} {n : Nat} {m₀ : PySem.Str → Option Value} {news : Led} (J : Nat → (PySem.Str → Option Value) → Led → Prop)
    (hh : A.handled = none) (F : Fr h₀ env.locals s.heap m₀) (N : News h₀ env.locals s.heap news) (hr : IsRange s.heap r a b c t u v) (hsm : Builtin.Range.small a b c = true) (hn : Builtin.Range.rangeSize a b c = n)
    (hj : J 0 m₀ news)
    (step : ∀ i m' news' h' tk' I oI tt (QQ : Flow → Shared → Prop), i < n → J i m' news' → (∀ p ∈ news', p.1 ≠ I) → Fr h₀ env.locals h' m' → News h₀ env.locals h' ((I, oI) :: news') →
      QUp (AgainF h₀ env.locals { s with heap := h', toks := tk' } [(I, oI)] (J (i + 1)) Q) QQ →
      wpAny (model prog w) A (assign target env (.int (a + i * c) tt)) (fun _ s₂ => wpAny (model prog w) A (execs body env) QQ E s₂) E { s with heap := h', toks := tk' })
    (done : ∀ m' news' h' tk', J n m' news' → Fr h₀ env.locals h' m' → News h₀ env.locals h' news' → Q .next { s with heap := h', toks := tk' }) :
    wpAny (model prog w) A (pyIter (.ref r)) (fun it s₂ => TurnsAt prog w A h₀ env target body Q E it s₂) E s := by
  have hnew : h₀.get? s.heap.objs.size = none := ktu_new F (Nat.le_refl _)
  refine wpAny_pyIter_range hr hsm ?_
  have WT := KTurns.ofWalks (target := target) (Walks.range (prog := prog) (w := w) hh s.heap.objs.size a c n) fun i v s Q E st q => letGo_ranger st q
  refine ⟨_, _, _, _, _, _, _, m₀, news, J, rfl, WT, ?_, ?_, ?_, ?_, F.push _, N.grown fun b o e => Heap.get?_push_of_some _ e, hj, ?_, ?_⟩
  · intro hx
    exact Nat.ne_of_lt F.ns.lt (List.mem_singleton.mp hx)
  · intro b hb
    rw [List.mem_singleton.mp hb]; exact hnew
  · intro p hp hb
    exact Nat.ne_of_lt (Heap.lt_size (N p hp).1) (List.mem_singleton.mp hb)
  · show IsRangeIter _ _ _ _ _
    rw [hn]
    simpa using Heap.get?_push_size _ rfl
  · rintro i v m₁ news₁ h₁ tk₁ own hi ⟨tt, rfl⟩ hJ hoff hfp hget hin hI F₁ N₁
    obtain ⟨oI, hI⟩ : ∃ o, h₁.get? s.heap.objs.size = some o := ⟨_, hI⟩
    have hIo : (s.heap.objs.size, oI) ∈ own := hin _ (by simp) hnew _ hI
    have NI : News h₀ env.locals h₁ ((s.heap.objs.size, oI) :: news₁) := fun p hp => (List.mem_cons.mp hp).elim (fun e => by rw [e]; exact N₁ _ (List.mem_append_left _ hIo)) (fun h => N₁ _ (List.mem_append_right _ h))
    have back : ∀ {h' : Heap} {n' : Led}, News h₀ env.locals h' ([(s.heap.objs.size, oI)] ++ n') → News h₀ env.locals h' (own ++ n') := by
      intro h' n' N' p hp
      rcases List.mem_append.mp hp with hp | hp
      · have h1 := List.mem_singleton.mp (hfp p hp)
        have h2 := hget p hp
        have : p = (s.heap.objs.size, oI) := by
          rw [h1, hI] at h2; exact Prod.ext h1 (Option.some.inj h2).symm
        rw [this]; exact N' _ List.mem_cons_self
      · exact N' _ (List.mem_append_right _ hp)
    have offI : ∀ {oo : Obj} {n' : Led}, (∀ p ∈ n', ∀ q ∈ [(s.heap.objs.size, oo)], p.1 ≠ q.1) → ∀ p ∈ n', p.1 ∉ [s.heap.objs.size] := fun h p hp hb => h p hp _ List.mem_cons_self (List.mem_singleton.mp hb)
    refine wpAny_mono (step i m₁ news₁ h₁ tk₁ _ oI tt _ hi hJ (fun p hp e => hoff p hp (by rw [e]; exact List.mem_cons_self)) F₁ NI QUp.rfl') (fun _ s₂ h₂ => wpAny_mono h₂ (fun f s₃ p => ?_) fun _ _ e => e) fun _ _ e => e
    cases f with
    | ret v => exact .ret p
    | brk => exact .brk p
    | next => obtain ⟨h', tk, m', n', e, F', N', of', hj'⟩ := p; exact .next ⟨rfl, h', tk, m', n', e, F', back N', offI of', hj'⟩
    | cont => obtain ⟨h', tk, m', n', e, F', N', of', hj'⟩ := p; exact .cont ⟨rfl, h', tk, m', n', e, F', back N', offI of', hj'⟩
  · rintro h' tk m' n' F' N' _ hJ
    exact done m' n' h' tk hJ F' N'
end
theorem valueAt_put {K : Type} [DecidableEq K] (kvs : List (K × Value)) (k : K) (v : Value) (x : K) : valueAt (stored kvs k v) x = if x = k then some v else valueAt kvs x := by
  unfold stored
  by_cases h : (kvs.any fun kv => decide (kv.1 = k)) = true
  · rw [if_pos h]
    induction kvs with
    | nil => simp at h
    | cons b r ih =>
      unfold valueAt at *
      rw [List.map_cons]
      by_cases e : b.1 = k
      · rw [if_pos e]
        by_cases ex : x = k
        · rw [if_pos ex, List.find?_cons_of_pos (by simp [e, ex])]; rfl
        · rw [if_neg ex, List.find?_cons_of_neg (by simpa [e] using Ne.symm ex), List.find?_cons_of_neg (by simpa [e] using Ne.symm ex)]
          clear ih h
          induction r with
          | nil => rfl
          | cons c r ih2 =>
            rw [List.map_cons]
            by_cases ec : c.1 = k
            · rw [if_pos ec, List.find?_cons_of_neg (by simpa [ec] using Ne.symm ex), List.find?_cons_of_neg (by simpa [ec] using Ne.symm ex)]
              exact ih2
            · rw [if_neg ec]
              by_cases exc : c.1 = x
              · rw [List.find?_cons_of_pos (by simpa using exc), List.find?_cons_of_pos (by simpa using exc)]
              · rw [List.find?_cons_of_neg (by simpa using exc), List.find?_cons_of_neg (by simpa using exc)]
                exact ih2
      · rw [if_neg e]
        have h' : (r.any fun kv => decide (kv.1 = k)) = true := by simpa [e] using h
        by_cases exb : b.1 = x
        · have : x ≠ k := fun q => e (exb.trans q)
          rw [if_neg this, List.find?_cons_of_pos (by simpa using exb), List.find?_cons_of_pos (by simpa using exb)]
        · rw [List.find?_cons_of_neg (by simpa using exb), List.find?_cons_of_neg (by simpa using exb)]
          exact ih h'
  · rw [if_neg h]
    have hn : ∀ kv ∈ kvs, kv.1 ≠ k := fun kv hkv e => h (List.any_eq_true.mpr ⟨kv, hkv, by simpa using e⟩)
    unfold valueAt
    rw [List.find?_append]
    by_cases ex : x = k
    · subst ex
      rw [if_pos rfl, List.find?_eq_none.mpr fun kv hkv => by simpa using hn kv hkv]
      simp
    · rw [if_neg ex]
      cases List.find? (fun kv => decide (kv.1 = x)) kvs <;> simp [Ne.symm ex]
theorem ne_of_lts {l : Led} {d : Addr} (h : ∀ p ∈ l, p.1 < d) : ∀ p ∈ l, p.1 ≠ d := fun p hp => Nat.ne_of_lt (h p hp)
noncomputable def CutEndK (h₀ : Heap) (L : Addr) (s : Shared) (ns : List PySem.Str) (m : PySem.Str → Option Value) (J : (PySem.Str → Option Value) → Led → Prop) (f : Flow) (s' : Shared) : Prop :=
  f = .next ∧ ∃ h' tk' m' n', s' = { s with heap := h', toks := tk' } ∧ Fr h₀ L h' m' ∧ KeptK ns m m' ∧ News h₀ L h' n' ∧ J m' n'
theorem CutEndK.mk {h₀ : Heap} {L : Addr} {s : Shared} {ns : List PySem.Str} {m m' : PySem.Str → Option Value} {J : (PySem.Str → Option Value) → Led → Prop} {h' : Heap} {tk' : Nat} {n' : Led} (F : Fr h₀ L h' m') (N : News h₀ L h' n') (hk : KeptK ns m m') (j : J m' n') : CutEndK h₀ L s ns m J .next { s with heap := h', toks := tk' } :=
  ⟨rfl, h', tk', m', n', rfl, F, hk, N, j⟩
theorem cut_k {M : Model} {A : Around} {E : Value → Shared → Prop} {s : Shared} {h₀ : Heap} {L : Addr} {m : PySem.Str → Option Value} {t : Sem Flow} {Q : Flow → Shared → Prop} (ns : List PySem.Str) (_F : Fr h₀ L s.heap m) (J : (PySem.Str → Option Value) → Led → Prop)
    (h : wpAny M A t (CutEndK h₀ L s ns m J) E s)
    (k : ∀ h' tk' m' n', Fr h₀ L h' (mapK m' m ns) → News h₀ L h' n' → J m' n' → Q .next { s with heap := h', toks := tk' }) : wpAny M A t Q E s :=
  wpAny_mono h (fun _ _ ⟨e, h', tk', m', n', e2, F, hk, N, j⟩ => by subst e e2; exact k h' tk' m' n' (fr_to F (mapK_eq hk)) N j) fun _ _ e => e
noncomputable def HasS (m : PySem.Str → Option Value) (a : PySem.Str) (l : List Nat) : Prop := ∃ t, m a = some (.str (tx l) t)
theorem HasS.of {m : PySem.Str → Option Value} {a : PySem.Str} {x : PySem.Str} {l : List Nat} {t : Tok} (e : m a = some (.str x t)) (h : x = tx l) : HasS m a l := ⟨t, h ▸ e⟩
end S_Fr2
local macro_rules | `(tactic| k_all) => `(tactic| first | assumption | exact ne_of_lts (by assumption))
section S_FLr
local macro_rules | `(tactic| walk_at "tD") => `(tactic| (intro d' h' o' F' N' l1 lo' hd'; (try k_lt l1)))
local macro_rules | `(tactic| walk_at "truthy str") => `(tactic| (refine' truthy_tx ?k1 ?k2 ?_; (case k1 => omega); (case k2 => assumption); intro _))
example : True := by
  k_with "eval Dict" => ((refine' kdn_eval (knd := PySem.intKind _ _) ?k1 ?k2 ?k3 ?k4 ?k5 ?k6 ?k7 ?_; (case k1 => k_asm); (case k2 => k_asm); (case k3 => exact Top.nolimit (by k_asm)); (case k4 => rfl); (case k5 => rfl); (case k6 => exact List.cons_ne_nil _ _); (case k7 => exact Nat.le_of_ble_eq_true rfl); walk_at "tD"))
  trivial
local macro_rules | `(tactic| walk_at "eval Dict Call Tuple") => `(tactic| walk_at "eval Dict")
local macro_rules | `(tactic| walk_at "eval Dict cons cons") => `(tactic| walk_at "eval Dict")
local macro_rules | `(tactic| walk_at "call ref") => `(tactic| (refine Stop.mk ?_))
example : True := by
  trivial
example : True := by
  k_with "getMethod ref" => (((with_reducible show wpAny _ _ (getMethod (Value.ref _) (PySem.Str.ofString "get") _) _ _ _); refine' kdg_method (knd := PySem.intKind _ _) ?k1 ?k2 ?k3 ?_; (case k1 => k_asm); (case k2 => k_mem); (case k3 => assumption)))
  k_with "call builtin:dict.get" => (((try dsimp only [List.nil_append, List.cons_append]); refine' kdg_get2 (knd := PySem.intKind _ _) ?k1 ?k2 ?k3 ?k4 (intKind_is _ _ _ _) _ ?k5 ?_; (case k1 => k_asm); (case k2 => k_mem); (case k3 => assumption); (case k4 => assumption); (case k5 => assumption); (try dsimp only [Option.getD])))
  trivial
example : True := by
  k_with "setItem ref int" => ((refine' kda_set (knd := PySem.intKind _ _) ?k1 ?k2 ?k3 ?k4 (intKind_is _ _ _ _) ?k5 ?_; (case k1 => k_asm); (case k2 => k_asm); (case k3 => k_updF); (case k4 => assumption); (case k5 => assumption); (walk_at "tI")))
  trivial
local macro_rules | `(tactic| walk_at "exec Assign") => `(tactic| ((fail_if_success (with_reducible show wpAny _ _ _ (CutEndK _ _ _ _ _ _) _ _)); (with_reducible show wpAny _ _ (exec (Stmt.Assign [Expr.Tuple _ _ _] _ _) _) _ _ _); refine Stop.mk ?_))
local macro_rules | `(tactic| walk_at "exec If") => `(tactic| ((fail_if_success (with_reducible show wpAny _ _ _ (CutEndK _ _ _ _ _ _) _ _)); refine Stop.mk ?_))
noncomputable abbrev Ways := Nat → Option (List Nat × Nat)
noncomputable def wayIn (R : List Nat → List Nat → List Nat) (part : List Nat) (count : Nat) (st : Ways × Nat) (one : List Nat) : Ways × Nat :=
  let wh := if one = part then st.2 + count else st.2
  let left := if count ≠ 0 then R one part else []
  if left ≠ [] then ((fun n => if n = left.length then some (left, ((st.1 left.length).getD ([], 0)).2 + count) else st.1 n), wh) else (st.1, wh)
noncomputable def wayOut (R : List Nat → List Nat → List Nat) (code : List (List Nat)) (st : Ways × Nat) (size : Nat) : Ways × Nat :=
  code.foldl (wayIn R ((st.1 size).getD ([], 0)).1 ((st.1 size).getD ([], 0)).2) st
noncomputable def waysL (R : List Nat → List Nat → List Nat) (code : List (List Nat)) (text : List Nat) (n : Nat) : Ways × Nat :=
  ((List.range n).map fun i => text.length - 2 * i).foldl (wayOut R code) ((fun n => if n = text.length then some (text, 1) else none), 0)
noncomputable def readingsL (R : List Nat → List Nat → List Nat) (code : List (List Nat)) (text : List Nat) : Nat := (waysL R code text ((text.length + 1) / 2)).2
noncomputable abbrev wayO (p : List Nat) (c : Nat) (t t' : Tok) : Obj := { cls := .type "tuple", data := .seq #[.str (tx p) t, .int ((c : Nat) : Int) t'] }
noncomputable def WR (g : Ways) (kvs : List (Int × Value)) (tl : Led) : Prop := ∀ n : Nat, (g n = none ∧ valueAt kvs (n : Int) = none) ∨ ∃ p c T t t', g n = some (p, c) ∧ valueAt kvs (n : Int) = some (.ref T) ∧ (T, wayO p c t t') ∈ tl
theorem WR.put {g : Ways} {kvs : List (Int × Value)} {tl : Led} (h : WR g kvs tl) {D : Addr} {p : List Nat} {c N : Nat} {t t' : Tok} {k : Int} (hk : k = ((N : Nat) : Int)) :
    WR (fun n => if n = N then some (p, c) else g n) (stored kvs k (.ref D)) ((D, wayO p c t t') :: tl) := by
  intro n
  dsimp only
  rw [valueAt_put, hk]
  by_cases e : n = N
  · refine .inr ⟨p, c, D, t, t', if_pos e, ?_, List.mem_cons_self⟩
    rw [if_pos (by rw [e])]
  · have e' : ¬ ((n : Nat) : Int) = (N : Nat) := by omega
    rw [if_neg e, if_neg e']
    rcases h n with h | ⟨p', c', T, t1, t2, h1, h2, h3⟩
    · exact .inl h
    · exact .inr ⟨p', c', T, t1, t2, h1, h2, List.mem_cons_of_mem _ h3⟩
theorem ite_snd {α β : Type} {c : Prop} [Decidable c] {a b : α} {w : β} : (if c then (a, w) else (b, w)).2 = w := by split <;> rfl
inductive ReadJ (w : World) (P : List Nat → Prop) (Inv : Nat → Led → Prop) (ks : List PySem.Str) (m0 m' : PySem.Str → Option Value) (W : (Nat → Option (List Nat × Nat)) × Nat) (lx kx : Nat) (d : Addr) (own n' : Led) : Prop
  | mk (hk : KeptK ks m0 m') (ow : Obj) (kvs : List (Int × Value)) (tl b : Led) (k : Nat) (g1 : ow.IsDictOf (PySem.intKind P0 w) kvs) (g2 : kvs.length ≤ lx) (g3 : WR W.1 kvs tl) (g4 : HasI m' (PySem.Str.ofString "whole") (W.2 : Nat)) (g5 : ∀ n p c, W.1 n = some (p, c) → P p ∧ p.length ≤ 200) (g6 : Inv k b) (g7 : k ≤ kx) (g8 : Apart ((d, ow) :: (tl ++ own)) b) (g9 : ∀ p ∈ tl ++ own, p.1 ≠ d) (g10 : n' = (d, ow) :: ((tl ++ own) ++ b)) : ReadJ w P Inv ks m0 m' W lx kx d own n'
inductive ReadI (w : World) (P : List Nat → Prop) (Inv : Nat → Led → Prop) (ks : List PySem.Str) (m0 m' : PySem.Str → Option Value) (W : (Nat → Option (List Nat × Nat)) × Nat) (lx kx : Nat) (I : Addr) (oI : Obj) (d : Addr) (own n' : Led) : Prop
  | mk (hk : KeptK ks m0 m') (ow : Obj) (kvs : List (Int × Value)) (tl b : Led) (k : Nat) (g1 : ow.IsDictOf (PySem.intKind P0 w) kvs) (g2 : kvs.length ≤ lx) (g3 : WR W.1 kvs tl) (g4 : HasI m' (PySem.Str.ofString "whole") (W.2 : Nat)) (g5 : ∀ n p c, W.1 n = some (p, c) → P p ∧ p.length ≤ 200) (g6 : Inv k b) (g7 : k ≤ kx) (g8 : Apart ((I, oI) :: (d, ow) :: (tl ++ own)) b) (g9 : ∀ p ∈ tl ++ own, p.1 ≠ d) (g10 : ∀ p ∈ tl ++ own, p.1 ≠ I) (g11 : n' = (I, oI) :: (d, ow) :: ((tl ++ own) ++ b)) : ReadI w P Inv ks m0 m' W lx kx I oI d own n'
inductive ReadP (R : List Nat → List Nat → List Nat) (code : List (List Nat)) (text : List Nat) (Inv : Nat → Led → Prop) (kb : Nat) (own : Led) (r : Value) (n' : Led) : Prop
  | mk (t : Tok) (bs' : Led) (k' : Nat) (h1 : r = .int (readingsL R code text : Nat) t) (h2 : Inv k' bs') (h3 : k' ≤ kb + 1000) (h4 : Apart own bs') (h5 : n' = own ++ bs') : ReadP R code text Inv kb own r n'
namespace Kreadings
abbrev Par : Type := (World) × (Addr) × (Value) × (Option Addr) × (FuncData) × (Array (Option Value)) × (List Nat → List Nat → List Nat) × (List Nat → List Nat → Prop) × (Nat → Led → Prop) × (Addr) × (Nat) × (List (List Nat)) × (List Value) × (List Nat) × (Tok) × (Led) × (Led) × (Nat) × (List Nat → Prop) × (Program) × (List PySem.Str) × (ExcName → Option Value) × (PySem.Str → Option Value) × (PySem.Str → Option Value) × (Nat) × (Nat) × (Option (List Code)) × (PySem.Str) × (Scope) × (Addr) × (Value) × (List (PySem.Str × Addr)) × (List Env) × (Around) × (Heap) × (Heap) × (Addr) × (PySem.Str → Option Value) × (Shared) × (Value → Shared → Prop) × (Value → Shared → Prop)
theorem ne : Nonempty Par := ⟨by refine ⟨?_, ?_, ?_, ?_, ?_, ?_, ?_, ?_, ?_, ?_, ?_, ?_, ?_, ?_, ?_, ?_, ?_, ?_, ?_, ?_, ?_, ?_, ?_, ?_, ?_, ?_, ?_, ?_, ?_, ?_, ?_, ?_, ?_, ?_, ?_, ?_, ?_, ?_, ?_, ?_, ?_⟩ <;> first | exact W0 | exact default | exact {} | exact FD0⟩
noncomputable def Goal : Par → Prop := fun e0 => (fun (w : World) (f : Addr) (foc : Value) (fod : Option Addr) (ffd : FuncData) (fsl : Array (Option Value)) (R : List Nat → List Nat → List Nat) (Dm : List Nat → List Nat → Prop) (Inv : Nat → Led → Prop) (lc : Addr) (cc : Nat) (code : List (List Nat)) (cvs : List Value) (text : List Nat) (t0 : Tok) (own : Led) (bs : Led) (kb : Nat) (P : List Nat → Prop) (p : Program) (loose : List PySem.Str) (mean : ExcName → Option Value) (mg : PySem.Str → Option Value) (mb : PySem.Str → Option Value) (dp : Nat) (un : Nat) (gd : Option (List Code)) (cn : PySem.Str) (cs : Scope) (a : Addr) (ccd : Value) (cl : List (PySem.Str × Addr)) (outer : List Env) (A₀ : Around) (base : Heap) (h₀ : Heap) (L : Addr) (m : PySem.Str → Option Value) (s : Shared) (Q : Value → Shared → Prop) (E : Value → Shared → Prop) => (hR : RestC w 870 f ⟨foc, fod, .func ffd, fsl⟩ R Dm Inv) → (hc : (lc, W.listOf cvs.toArray cc) ∈ own) → (hcv : F2 TxtV code cvs) → (hlen : text.length ≤ 100) → (hclen : code.length ≤ 10) → (hP : P text) → (hPs : ∀ c ∈ code, ∀ part, P part → Dm c part ∧ (R c part).length ≤ 200 ∧ (R c part ≠ [] → P (R c part))) → (hI : Inv kb bs) → (hkb : kb + 1000 < 1000000) → (hap : Apart own bs) → FnG w 860 166 [.ref lc, .str (tx text) t0, .ref f] (own ++ bs) (ReadP R code text Inv kb own) p loose mean mg mb dp un gd cn cs a ccd cl outer A₀ base h₀ L m s Q E) e0.1 e0.2.1 e0.2.2.1 e0.2.2.2.1 e0.2.2.2.2.1 e0.2.2.2.2.2.1 e0.2.2.2.2.2.2.1 e0.2.2.2.2.2.2.2.1 e0.2.2.2.2.2.2.2.2.1 e0.2.2.2.2.2.2.2.2.2.1 e0.2.2.2.2.2.2.2.2.2.2.1 e0.2.2.2.2.2.2.2.2.2.2.2.1 e0.2.2.2.2.2.2.2.2.2.2.2.2.1 e0.2.2.2.2.2.2.2.2.2.2.2.2.2.1 e0.2.2.2.2.2.2.2.2.2.2.2.2.2.2.1 e0.2.2.2.2.2.2.2.2.2.2.2.2.2.2.2.1 e0.2.2.2.2.2.2.2.2.2.2.2.2.2.2.2.2.1 e0.2.2.2.2.2.2.2.2.2.2.2.2.2.2.2.2.2.1 e0.2.2.2.2.2.2.2.2.2.2.2.2.2.2.2.2.2.2.1 e0.2.2.2.2.2.2.2.2.2.2.2.2.2.2.2.2.2.2.2.1 e0.2.2.2.2.2.2.2.2.2.2.2.2.2.2.2.2.2.2.2.2.1 e0.2.2.2.2.2.2.2.2.2.2.2.2.2.2.2.2.2.2.2.2.2.1 e0.2.2.2.2.2.2.2.2.2.2.2.2.2.2.2.2.2.2.2.2.2.2.1 e0.2.2.2.2.2.2.2.2.2.2.2.2.2.2.2.2.2.2.2.2.2.2.2.1 e0.2.2.2.2.2.2.2.2.2.2.2.2.2.2.2.2.2.2.2.2.2.2.2.2.1 e0.2.2.2.2.2.2.2.2.2.2.2.2.2.2.2.2.2.2.2.2.2.2.2.2.2.1 e0.2.2.2.2.2.2.2.2.2.2.2.2.2.2.2.2.2.2.2.2.2.2.2.2.2.2.1 e0.2.2.2.2.2.2.2.2.2.2.2.2.2.2.2.2.2.2.2.2.2.2.2.2.2.2.2.1 e0.2.2.2.2.2.2.2.2.2.2.2.2.2.2.2.2.2.2.2.2.2.2.2.2.2.2.2.2.1 e0.2.2.2.2.2.2.2.2.2.2.2.2.2.2.2.2.2.2.2.2.2.2.2.2.2.2.2.2.2.1 e0.2.2.2.2.2.2.2.2.2.2.2.2.2.2.2.2.2.2.2.2.2.2.2.2.2.2.2.2.2.2.1 e0.2.2.2.2.2.2.2.2.2.2.2.2.2.2.2.2.2.2.2.2.2.2.2.2.2.2.2.2.2.2.2.1 e0.2.2.2.2.2.2.2.2.2.2.2.2.2.2.2.2.2.2.2.2.2.2.2.2.2.2.2.2.2.2.2.2.1 e0.2.2.2.2.2.2.2.2.2.2.2.2.2.2.2.2.2.2.2.2.2.2.2.2.2.2.2.2.2.2.2.2.2.1 e0.2.2.2.2.2.2.2.2.2.2.2.2.2.2.2.2.2.2.2.2.2.2.2.2.2.2.2.2.2.2.2.2.2.2.1 e0.2.2.2.2.2.2.2.2.2.2.2.2.2.2.2.2.2.2.2.2.2.2.2.2.2.2.2.2.2.2.2.2.2.2.2.1 e0.2.2.2.2.2.2.2.2.2.2.2.2.2.2.2.2.2.2.2.2.2.2.2.2.2.2.2.2.2.2.2.2.2.2.2.2.1 e0.2.2.2.2.2.2.2.2.2.2.2.2.2.2.2.2.2.2.2.2.2.2.2.2.2.2.2.2.2.2.2.2.2.2.2.2.2.1 e0.2.2.2.2.2.2.2.2.2.2.2.2.2.2.2.2.2.2.2.2.2.2.2.2.2.2.2.2.2.2.2.2.2.2.2.2.2.2.1 e0.2.2.2.2.2.2.2.2.2.2.2.2.2.2.2.2.2.2.2.2.2.2.2.2.2.2.2.2.2.2.2.2.2.2.2.2.2.2.2.1 e0.2.2.2.2.2.2.2.2.2.2.2.2.2.2.2.2.2.2.2.2.2.2.2.2.2.2.2.2.2.2.2.2.2.2.2.2.2.2.2.2
noncomputable def q : Par := pick ne Goal
@[irreducible] noncomputable def w : World := q.1
@[irreducible] noncomputable def f : Addr := q.2.1
@[irreducible] noncomputable def foc : Value := q.2.2.1
@[irreducible] noncomputable def fod : Option Addr := q.2.2.2.1
@[irreducible] noncomputable def ffd : FuncData := q.2.2.2.2.1
@[irreducible] noncomputable def fsl : Array (Option Value) := q.2.2.2.2.2.1
@[irreducible] noncomputable def R : List Nat → List Nat → List Nat := q.2.2.2.2.2.2.1
@[irreducible] noncomputable def Dm : List Nat → List Nat → Prop := q.2.2.2.2.2.2.2.1
@[irreducible] noncomputable def Inv : Nat → Led → Prop := q.2.2.2.2.2.2.2.2.1
@[irreducible] noncomputable def lc : Addr := q.2.2.2.2.2.2.2.2.2.1
@[irreducible] noncomputable def cc : Nat := q.2.2.2.2.2.2.2.2.2.2.1
@[irreducible] noncomputable def code : List (List Nat) := q.2.2.2.2.2.2.2.2.2.2.2.1
@[irreducible] noncomputable def cvs : List Value := q.2.2.2.2.2.2.2.2.2.2.2.2.1
@[irreducible] noncomputable def text : List Nat := q.2.2.2.2.2.2.2.2.2.2.2.2.2.1
@[irreducible] noncomputable def t0 : Tok := q.2.2.2.2.2.2.2.2.2.2.2.2.2.2.1
@[irreducible] noncomputable def own : Led := q.2.2.2.2.2.2.2.2.2.2.2.2.2.2.2.1
@[irreducible] noncomputable def bs : Led := q.2.2.2.2.2.2.2.2.2.2.2.2.2.2.2.2.1
@[irreducible] noncomputable def kb : Nat := q.2.2.2.2.2.2.2.2.2.2.2.2.2.2.2.2.2.1
@[irreducible] noncomputable def P : List Nat → Prop := q.2.2.2.2.2.2.2.2.2.2.2.2.2.2.2.2.2.2.1
@[irreducible] noncomputable def p : Program := q.2.2.2.2.2.2.2.2.2.2.2.2.2.2.2.2.2.2.2.1
@[irreducible] noncomputable def loose : List PySem.Str := q.2.2.2.2.2.2.2.2.2.2.2.2.2.2.2.2.2.2.2.2.1
@[irreducible] noncomputable def mean : ExcName → Option Value := q.2.2.2.2.2.2.2.2.2.2.2.2.2.2.2.2.2.2.2.2.2.1
@[irreducible] noncomputable def mg : PySem.Str → Option Value := q.2.2.2.2.2.2.2.2.2.2.2.2.2.2.2.2.2.2.2.2.2.2.1
@[irreducible] noncomputable def mb : PySem.Str → Option Value := q.2.2.2.2.2.2.2.2.2.2.2.2.2.2.2.2.2.2.2.2.2.2.2.1
@[irreducible] noncomputable def dp : Nat := q.2.2.2.2.2.2.2.2.2.2.2.2.2.2.2.2.2.2.2.2.2.2.2.2.1
@[irreducible] noncomputable def un : Nat := q.2.2.2.2.2.2.2.2.2.2.2.2.2.2.2.2.2.2.2.2.2.2.2.2.2.1
@[irreducible] noncomputable def gd : Option (List Code) := q.2.2.2.2.2.2.2.2.2.2.2.2.2.2.2.2.2.2.2.2.2.2.2.2.2.2.1
@[irreducible] noncomputable def cn : PySem.Str := q.2.2.2.2.2.2.2.2.2.2.2.2.2.2.2.2.2.2.2.2.2.2.2.2.2.2.2.1
@[irreducible] noncomputable def cs : Scope := q.2.2.2.2.2.2.2.2.2.2.2.2.2.2.2.2.2.2.2.2.2.2.2.2.2.2.2.2.1
@[irreducible] noncomputable def a : Addr := q.2.2.2.2.2.2.2.2.2.2.2.2.2.2.2.2.2.2.2.2.2.2.2.2.2.2.2.2.2.1
@[irreducible] noncomputable def ccd : Value := q.2.2.2.2.2.2.2.2.2.2.2.2.2.2.2.2.2.2.2.2.2.2.2.2.2.2.2.2.2.2.1
@[irreducible] noncomputable def cl : List (PySem.Str × Addr) := q.2.2.2.2.2.2.2.2.2.2.2.2.2.2.2.2.2.2.2.2.2.2.2.2.2.2.2.2.2.2.2.1
@[irreducible] noncomputable def outer : List Env := q.2.2.2.2.2.2.2.2.2.2.2.2.2.2.2.2.2.2.2.2.2.2.2.2.2.2.2.2.2.2.2.2.1
@[irreducible] noncomputable def A₀ : Around := q.2.2.2.2.2.2.2.2.2.2.2.2.2.2.2.2.2.2.2.2.2.2.2.2.2.2.2.2.2.2.2.2.2.1
@[irreducible] noncomputable def base : Heap := q.2.2.2.2.2.2.2.2.2.2.2.2.2.2.2.2.2.2.2.2.2.2.2.2.2.2.2.2.2.2.2.2.2.2.1
@[irreducible] noncomputable def h₀ : Heap := q.2.2.2.2.2.2.2.2.2.2.2.2.2.2.2.2.2.2.2.2.2.2.2.2.2.2.2.2.2.2.2.2.2.2.2.1
@[irreducible] noncomputable def L : Addr := q.2.2.2.2.2.2.2.2.2.2.2.2.2.2.2.2.2.2.2.2.2.2.2.2.2.2.2.2.2.2.2.2.2.2.2.2.1
@[irreducible] noncomputable def m : PySem.Str → Option Value := q.2.2.2.2.2.2.2.2.2.2.2.2.2.2.2.2.2.2.2.2.2.2.2.2.2.2.2.2.2.2.2.2.2.2.2.2.2.1
@[irreducible] noncomputable def s : Shared := q.2.2.2.2.2.2.2.2.2.2.2.2.2.2.2.2.2.2.2.2.2.2.2.2.2.2.2.2.2.2.2.2.2.2.2.2.2.2.1
@[irreducible] noncomputable def Q : Value → Shared → Prop := q.2.2.2.2.2.2.2.2.2.2.2.2.2.2.2.2.2.2.2.2.2.2.2.2.2.2.2.2.2.2.2.2.2.2.2.2.2.2.2.1
@[irreducible] noncomputable def E : Value → Shared → Prop := q.2.2.2.2.2.2.2.2.2.2.2.2.2.2.2.2.2.2.2.2.2.2.2.2.2.2.2.2.2.2.2.2.2.2.2.2.2.2.2.2
noncomputable def BH (g₉ : Heap) (l₉ : Addr) (h₉ : Heap) (t₉ : Nat) : Prop := BodyH w 166 165 27 [(PySem.Str.ofString "rest", .ref f), (PySem.Str.ofString "text", .str (tx text) t0), (PySem.Str.ofString "code", .ref lc)] (own ++ bs) p loose mean mg mb dp un gd cn cs a ccd cl outer base h₀ L m s Q E (rfl : stm 27 = _) g₉ l₉ h₉ t₉
noncomputable def ev : EV := pick evne (fun e => BH e.g e.l e.h e.t)
@[irreducible] noncomputable def g' : Heap := ev.g
@[irreducible] noncomputable def L' : Addr := ev.l
@[irreducible] noncomputable def h' : Heap := ev.h
@[irreducible] noncomputable def tk' : Nat := ev.t
theorem body (hR : RestC w 870 f ⟨foc, fod, .func ffd, fsl⟩ R Dm Inv) (hc : (lc, W.listOf cvs.toArray cc) ∈ own) (hcv : F2 TxtV code cvs) (hlen : text.length ≤ 100) (hclen : code.length ≤ 10) (hP : P text) (hPs : ∀ c ∈ code, ∀ part, P part → Dm c part ∧ (R c part).length ≤ 200 ∧ (R c part ≠ [] → P (R c part))) (hI : Inv kb bs) (hkb : kb + 1000 < 1000000) (hap : Apart own bs) (B : Below A₀ base outer h₀) (X : (K0 w.params).In h₀) (T : Top p loose mean mg mb h₀) (C1 : CodeHd h₀ 61 57) (C2 : CodeHd h₀ 170 168) (hk : cs.kind = .function) (hd : dp < 860) (hu : un < 8 * 860) (hret : ∀ r news' h' tk', Fr h₀ L h' m → News h₀ L h' news' → ((ReadP R code text Inv kb own)) r news' → Q r { s with heap := h', toks := tk' }) : BH g' L' h' tk' := by
  have yc : Clo := .mk
  w_on
  intro F' N' B' X' T' C1' C2' lt'
  (try dsimp only)
  have htl : (tx text).length = text.length := tx_length text
  k_steps
  rename_i d _ _ l1 lo _ D _ lD _ ow hdw _ _ F1 N1
  refine Stop.go (For_turns F1 ?_)
  k_steps
  rename_i N1 _ _ _ _ _ hr F1 _ hkp
  have N2 := N1.grown hkp
  clear N1 hkp
  have N3 := News.swap N2
  clear N2
  have hsize : Builtin.Range.rangeSize ((tx text).length : Nat) 0 (-2) = ((text.length + 1) / 2 : Nat) := by
    rw [htl]; unfold Builtin.Range.rangeSize
    simp
    split <;> omega
  dsimp only
  refine for_range (n := (text.length + 1) / 2) (fun i m' n' => ReadJ w P Inv [PySem.Str.ofString "size", PySem.Str.ofString "part", PySem.Str.ofString "count", PySem.Str.ofString "one", PySem.Str.ofString "whole", PySem.Str.ofString "left"] _ m' (waysL R code text i) (1 + code.length * i) (kb + code.length * i) d own n') rfl (by assumption) N3 hr ?hsm hsize ⟨fun _ _ => rfl, ow, _, [(D, wayO text 1 _ _)], bs, kb, hdw, Nat.le_refl _, ?hw, .of rfl rfl, ?hg, hI, Nat.le_refl _, ?hap, ?hne, rfl⟩ ?step ?done
  case hsm =>
    have hn0 : text.length / 2 ≤ 50 := by omega
    unfold Builtin.Range.small
    rw [hsize, htl]
    unfold Builtin.Range.rangeFitsLong
    simp
    omega
  case hw =>
    intro n
    show ((if n = text.length then some (text, 1) else none) = none ∧ valueAt [((((tx text).length : Nat) : Int), Value.ref D)] _ = none) ∨ _
    by_cases e : n = text.length
    · exact .inr ⟨text, 1, D, _, _, if_pos e, by show valueAt [((((tx text).length : Nat) : Int), Value.ref D)] _ = _; unfold valueAt; rw [htl, e, List.find?_cons_of_pos (by simp)]; rfl, List.mem_cons_self⟩
    · refine .inl ⟨if_neg e, ?_⟩
      unfold valueAt
      rw [htl, List.find?_cons_of_neg (by simp; omega)]; rfl
  case hg =>
    intro n p c h
    have h : (if n = text.length then some (text, 1) else none) = some (p, c) := h
    by_cases e : n = text.length
    · rw [if_pos e] at h; cases h; exact ⟨hP, by omega⟩
    · rw [if_neg e] at h; cases h
  case hap =>
    intro q hq p hp
    rcases List.mem_cons.mp hq with rfl | hq
    · exact Nat.ne_of_lt (l1 p (List.mem_append_right _ hp))
    · rcases List.mem_cons.mp hq with rfl | hq
      · exact Nat.ne_of_lt (AllLt.mem lD.2 p (List.mem_append_right _ hp))
      · exact hap q hq p hp
  case hne =>
    intro p hp
    rcases List.mem_cons.mp hp with rfl | hp
    · exact Nat.ne_of_gt lD.1
    · exact Nat.ne_of_lt (l1 p (List.mem_append_left _ hp))
  case done =>
    intro m' n' h' tk'
    intro zz1
    obtain ⟨hk', ow, kvs, tl, b', k', g1, g2, g3, zz2, g5, g6, g7, g8, g9, zz3⟩ := zz1
    revert hk' ow kvs tl b' k' g1 g2 g3 zz2 g5 g6 g7 g8 g9 zz3
    intro hk' ow kvs tl b' k' g1 g2 g3 zz2 g5 g6 g7 g8 g9 zz3
    subst zz3
    obtain ⟨ti, g4⟩ := zz2
    revert ti g4
    intro ti g4
    intro F' N'
    have F2 := fr_to F' (mapK_eq hk')
    clear F'
    dsimp only [mapK] at F2
    rw [g4] at F2
    k_steps
    rename News _ _ _ _ => NZ
    have hmu2 : code.length * ((text.length + 1) / 2) ≤ 10 * 50 := Nat.mul_le_mul hclen (by omega)
    refine hret _ _ _ _ (by assumption) (fun p hp => NZ p ?_) ⟨_, b', k', rfl, g6, by omega, g8.tail.sub (fun p hp => List.mem_append_right _ hp), rfl⟩
    simp only [List.mem_cons, List.mem_append] at hp ⊢
    rcases hp with h | h
    · exact .inr (.inl (.inr h))
    · exact .inr (.inr h)
  case step =>
    refine cl9 ?_; generalize cl9_1 _ _ = i, cl9_2 _ _ = m', cl9_3 _ _ = n', cl9_4 _ _ = h', cl9_5 _ _ = tk', cl9_6 _ _ = I, cl9_7 _ _ = oI, cl9_8 _ _ = tt, cl9_9 _ _ = Q6
    intro hi
    intro zz4
    obtain ⟨hk', ow, kvs, tl, b', k', g1, g2, g3, zz5, g5, g6, g7, g8, g9, zz6⟩ := zz4
    revert hk' ow kvs tl b' k' g1 g2 g3 zz5 g5 g6 g7 g8 g9 zz6
    intro hk' ow kvs tl b' k' g1 g2 g3 zz5 g5 g6 g7 g8 g9 zz6
    subst zz6
    obtain ⟨ti, g4⟩ := zz5
    revert ti g4
    intro ti g4
    intro hoff F' N0 hQ6
    clear F1 N3
    have F2 := fr_to F' (mapK_eq hk')
    clear F'
    dsimp only [mapK] at F2
    rw [g4] at F2
    have hsz : (((tx text).length : Nat) : Int) + (i : Nat) * (-2) = ((text.length - 2 * i : Nat) : Int) := by rw [htl]; omega
    rw [hsz]
    generalize hsn : text.length - 2 * i = size at *
    have hIne : @Ne Nat I d := fun e => hoff (d, ow) List.mem_cons_self e.symm
    k_steps
    refine Stop.go ?_
    refine cut_k [PySem.Str.ofString "part", PySem.Str.ofString "count"] (by assumption) (fun m2 n2 => HasS m2 (PySem.Str.ofString "part") (((waysL R code text i).1 size).getD ([], 0)).1 ∧ HasI m2 (PySem.Str.ofString "count") (((waysL R code text i).1 size).getD ([], 0)).2 ∧ n2 = (I, oI) :: (d, ow) :: ((tl ++ own) ++ b')) ?_ ?_
    · skip
      rcases g3 size with zz7 | zz8
      · obtain ⟨q1, q2⟩ := zz7
        revert q1 q2
        intro q1 q2
        rw [q1]
        k_steps
        rename News _ _ _ _ => NZ
        exact CutEndK.mk (by assumption) (fun p hp => NZ p (List.mem_cons_of_mem _ hp)) (by k_extra "kept") ⟨.of rfl rfl, .of rfl rfl, rfl⟩
      · obtain ⟨p, c, T, t, t', q1, q2, q3⟩ := zz8
        revert p c T t t' q1 q2 q3
        intro p c T t t' q1 q2 q3
        rw [q1]
        have q4 : (T, wayO p c t t') ∈ (tl ++ own) ++ b' := List.mem_append_left _ (List.mem_append_left _ q3)
        k_steps
        rename News _ _ _ _ => NZ
        exact CutEndK.mk (by assumption) (fun p hp => NZ p (List.mem_cons_of_mem _ hp)) (by k_extra "kept") ⟨.of rfl rfl, .of rfl rfl, rfl⟩
    · intro h' tk' m2 n2 F5 N5
      intro zz9
      obtain ⟨zz10, zz11, zz12⟩ := zz9
      revert zz10 zz11 zz12
      intro zz10 zz11 zz12
      subst zz12
      obtain ⟨tp, q1⟩ := zz10
      revert tp q1
      intro tp q1
      obtain ⟨tc, q2⟩ := zz11
      revert tc q2
      intro tc q2
      dsimp only [mapK] at F5
      rw [q1, q2] at F5
      generalize hpart : (((waysL R code text i).1 size).getD ([], 0)).1 = part at *
      generalize hcount : (((waysL R code text i).1 size).getD ([], 0)).2 = count at *
      have hgp : (waysL R code text (i + 1)) = code.foldl (wayIn R part count) (waysL R code text i) := by
        have e1 : ((List.range (i + 1)).map fun i => text.length - 2 * i) = ((List.range i).map fun i => text.length - 2 * i) ++ [size] := by
          rw [List.range_succ, List.map_append, List.map_singleton, hsn]
        unfold waysL
        rw [e1, List.foldl_append]
        show wayOut R code _ size = _
        unfold wayOut
        rw [← hpart, ← hcount]
        rfl
      have hpl : part = [] ∧ count = 0 ∨ P part ∧ part.length ≤ 200 := by
        rcases hgs : (waysL R code text i).1 size with _ | ⟨p, c⟩
        · rw [hgs] at hpart hcount; exact .inl ⟨hpart.symm, hcount.symm⟩
        · have := g5 _ _ _ hgs
          rw [hgs] at hpart
          have hpart : p = part := hpart
          rw [← hpart]; exact .inr this
      k_steps
      refine Stop.go (For_turns F5 ?_)
      k_steps
      refine Stop.go (for_list2 (n := cc) (vs := cvs) (fun j m' n' => ReadI w P Inv [PySem.Str.ofString "one", PySem.Str.ofString "whole", PySem.Str.ofString "left"] _ m' ((code.take j).foldl (wayIn R part count) (waysL R code text i)) (1 + code.length * i + j) (kb + code.length * i + j) I oI d own n') rfl (by assumption) (by assumption) ?hl ⟨fun _ _ => rfl, ow, kvs, tl, b', k', g1, g2, g3, ⟨_, rfl⟩, g5, g6, g7, ?ap1, g9, ?neI, rfl⟩ ?keep2 ?step2 ?done2)
      case hl => exact List.mem_cons_of_mem _ (List.mem_cons_of_mem _ (List.mem_append_left _ (List.mem_append_right _ hc)))
      case ap1 => exact Apart.cons (fun p hp => hoff p (List.mem_cons_of_mem _ (List.mem_append_right _ hp))) g8
      case neI => exact fun p hp => hoff p (List.mem_cons_of_mem _ (List.mem_append_left _ hp))
      case keep2 =>
        intro j m' n'
        intro zz13
        obtain ⟨zz14, ow, kvs, tl, b', k', zz15, zz16, zz17, zz18, zz19, zz20, zz21, zz22, zz23, zz24, zz25⟩ := zz13
        revert zz14 ow kvs tl b' k' zz15 zz16 zz17 zz18 zz19 zz20 zz21 zz22 zz23 zz24 zz25
        intro _ ow kvs tl b' k' _ _ _ _ _ _ _ _ _ _ zz25
        subst zz25
        exact List.mem_cons_of_mem _ (List.mem_cons_of_mem _ (List.mem_append_left _ (List.mem_append_right _ hc)))
      case done2 =>
        intro m3 n3 h' tk'
        intro zz26
        obtain ⟨hk3, ow3, kvs3, tl3, b3, k3, f1, f2, f3, zz27, f5, f6, f7, f8, f9, f10, zz28⟩ := zz26
        revert hk3 ow3 kvs3 tl3 b3 k3 f1 f2 f3 zz27 f5 f6 f7 f8 f9 f10 zz28
        intro hk3 ow3 kvs3 tl3 b3 k3 f1 f2 f3 zz27 f5 f6 f7 f8 f9 f10 zz28
        subst zz28
        obtain ⟨t4, f4⟩ := zz27
        revert t4 f4
        intro t4 f4
        intro F' N'
        have F3 := fr_to F' (mapK_eq hk3)
        clear F' F2 F5 N5
        dsimp only [mapK] at F3
        rw [f4] at F3
        rw [← hcv.length, List.take_length] at f3 f5 F3
        rw [← hcv.length] at f2 f7
        rw [← hgp] at f3 f5 F3
        k_steps
        have hmu : code.length * (i + 1) = code.length * i + code.length := by rw [Nat.mul_add, Nat.mul_one]
        refine AgainF.next (by assumption) (by assumption) (Sub.cons List.mem_cons_self (fun _ h => nomatch h)) (Sub.skip Sub.refl) ?off ⟨by k_extra "kept", ow3, kvs3, tl3, b3, k3, f1, by omega, f3, ⟨_, rfl⟩, f5, f6, by omega, f8.tail, f9, rfl⟩
        case off =>
          intro p hp q hq
          rw [List.mem_singleton.mp hq]
          rcases List.mem_cons.mp hp with rfl | hp
          · exact hIne.symm
          · rcases List.mem_append.mp hp with hp | hp
            · exact f10 p hp
            · exact f8.head p hp
      case step2 =>
        refine cl9 ?_; generalize cl9_1 _ _ = j, cl9_2 _ _ = v, cl9_3 _ _ = m3, cl9_4 _ _ = n3, cl9_5 _ _ = h', cl9_6 _ _ = tk', cl9_7 _ _ = I2, cl9_8 _ _ = oI2, cl9_9 _ _ = Q7
        intro hv2
        intro zz29
        obtain ⟨hk3, ow3, kvs3, tl3, b3, k3, f1, f2, f3, zz30, f5, f6, f7, f8, f9, f10, zz31⟩ := zz29
        revert hk3 ow3 kvs3 tl3 b3 k3 f1 f2 f3 zz30 f5 f6 f7 f8 f9 f10 zz31
        intro hk3 ow3 kvs3 tl3 b3 k3 f1 f2 f3 zz30 f5 f6 f7 f8 f9 f10 zz31
        subst zz31
        obtain ⟨t4, f4⟩ := zz30
        revert t4 f4
        intro t4 f4
        intro hoff2 F' N' hQ7
        have F3 := fr_to F' (mapK_eq hk3)
        clear F' F2 F5 N5
        dsimp only [mapK] at F3
        rw [f4] at F3
        have hlt2 : j < code.length := by
          rw [hcv.length]
          rcases Nat.lt_or_ge j cvs.length with h | h
          · exact h
          · rw [List.getElem?_eq_none h] at hv2; cases hv2
        obtain ⟨one, hcj⟩ : ∃ c, code[j]? = some c := ⟨_, List.getElem?_eq_getElem hlt2⟩
        revert one hcj
        intro one hcj
        obtain ⟨zz32, e1, to, zz33⟩ := hcv.get j hcj
        revert zz32 e1 to zz33
        intro _ e1 to zz33
        subst zz33
        rw [hv2] at e1
        cases e1
        have hcm : one ∈ code := List.mem_of_getElem? hcj
        have hfold2 : (code.take (j + 1)).foldl (wayIn R part count) (waysL R code text i) = wayIn R part count ((code.take j).foldl (wayIn R part count) (waysL R code text i)) one := by
          rw [List.take_add_one, hcj, List.foldl_append]; rfl
        generalize hst : (code.take j).foldl (wayIn R part count) (waysL R code text i) = st at *
        have hmu : code.length * (i + 1) ≤ code.length * ((text.length + 1) / 2) := Nat.mul_le_mul_left _ hi
        rw [Nat.mul_add] at hmu
        have hmu2 : code.length * ((text.length + 1) / 2) ≤ 10 * 50 := Nat.mul_le_mul hclen (by omega)
        have ap2 : Apart ((I2, oI2) :: (I, oI) :: (d, ow3) :: (tl3 ++ own)) b3 := Apart.cons (fun p hp => hoff2 p (List.mem_cons_of_mem _ (List.mem_cons_of_mem _ (List.mem_append_right _ hp)))) f8
        clear yc
        have hff2 : (f, (⟨foc, fod, .func ffd, fsl⟩ : Obj)) ∈ (tl3 ++ own) ++ b3 := List.mem_append_right _ (hR.mem _ _ f6)
        k_steps
        refine Stop.go ?_
        have hwh : (wayIn R part count st one).2 = if one = part then st.2 + count else st.2 := ite_snd
        refine cut_k [PySem.Str.ofString "whole"] (by assumption) (fun m4 n4 => HasI m4 (PySem.Str.ofString "whole") ((wayIn R part count st one).2 : Nat) ∧ n4 = (I2, oI2) :: (I, oI) :: (d, ow3) :: ((tl3 ++ own) ++ b3)) ?_ ?_
        · refine wpAny_If ?_
          rw [hwh]
          by_cases hop : one = part
          · have hoq : (tx one == tx part) = true := by rw [hop]; simp
            rw [if_pos hop]
            k_steps
            exact CutEndK.mk (by assumption) (by assumption) (by k_extra "kept") ⟨.of rfl rfl, rfl⟩
          · have hoq : (tx one == tx part) = false := tx_ne hop
            rw [if_neg hop]
            k_steps
            exact CutEndK.mk (by assumption) (by assumption) (by k_extra "kept") ⟨⟨_, rfl⟩, rfl⟩
        · intro h' tk' m4 n4 F' N'
          intro zz34
          obtain ⟨zz35, zz36⟩ := zz34
          revert zz35 zz36
          intro zz35 zz36
          subst zz36
          obtain ⟨t6, q3⟩ := zz35
          revert t6 q3
          intro t6 q3
          have hIo : I2 ≠ I := fun e => hoff2 (I, oI) (by simp) e.symm
          have hI2 : @Ne Nat I2 d := fun e => hoff2 (d, ow3) (by simp) e.symm
          dsimp only [mapK] at F'
          rw [q3] at F'
          clear F3 hwh
          rcases Nat.eq_zero_or_pos count with hc0 | hc0
          · have hz : ((count : Nat) : Int) = 0 := by rw [hc0]; rfl
            have hw : (wayIn R part count st one).1 = st.1 := by unfold wayIn; rw [hc0]; rfl
            k_steps
            refine Stop.go (wpAny_If ?_)
            k_steps
            refine AgainF.next (by assumption) (by assumption) (Sub.cons List.mem_cons_self (fun _ h => nomatch h)) (Sub.skip Sub.refl) ?off ⟨by k_extra "kept", ow3, kvs3, tl3, b3, k3, f1, by omega, by rw [hfold2, hw]; exact f3, by rw [hfold2]; exact ⟨_, rfl⟩, by rw [hfold2, hw]; exact f5, f6, by omega, f8, f9, f10, rfl⟩
            case off =>
              intro p hp q hq
              rw [List.mem_singleton.mp hq]
              exact hoff2 p hp
          · have hz : ((count : Nat) : Int) ≠ 0 := by omega
            rcases hpl with ⟨_, h0⟩ | ⟨hPp, hppl⟩
            · omega
            obtain ⟨hD1, hD2, hD3⟩ := hPs one hcm part hPp
            revert hD1 hD2 hD3
            intro hD1 hD2 hD3
            k_steps
            refine Stop.go ?_
            refine fn_use (hR.call k3 b3 ((I2, oI2) :: (I, oI) :: (d, ow3) :: (tl3 ++ own)) one part _ _ f6 (by omega) ap2 hD1) (by assumption) (by assumption) X' (by assumption) T' C1' C2' (by rfl) (by k_extra "dep") (by k_extra "dep") ?_
            intro r' n' h' tk' F' N'
            intro zz37
            obtain ⟨zz38, b4, f11, f12, zz39⟩ := zz37
            revert zz38 b4 f11 f12 zz39
            intro zz38 b4 f11 f12 zz39
            subst zz39
            obtain ⟨t7, zz40⟩ := zz38
            revert t7 zz40
            intro t7 zz40
            subst zz40
            dsimp only [List.cons_append] at N' ⊢
            k_steps
            refine Stop.go (wpAny_If ?_)
            have hcond : (if count ≠ 0 then R one part else []) = R one part := if_pos (by omega)
            cases hb1 : !(R one part).isEmpty with
            | false =>
              have he : R one part = [] := by simpa using hb1
              have hw : (wayIn R part count st one).1 = st.1 := by unfold wayIn; dsimp only; rw [hcond, if_neg (fun h => h he)]
              k_steps
              refine AgainF.next (by assumption) (by assumption) (Sub.cons List.mem_cons_self (fun _ h => nomatch h)) (Sub.skip Sub.refl) ?off ⟨by k_extra "kept", ow3, kvs3, tl3, b4, k3 + 1, f1, by omega, by rw [hfold2, hw]; exact f3, by rw [hfold2]; exact ⟨_, rfl⟩, by rw [hfold2, hw]; exact f5, f11, by omega, f12.tail, f9, f10, rfl⟩
              case off =>
                intro p hp q hq
                rw [List.mem_singleton.mp hq]
                rcases List.mem_cons.mp hp with rfl | hp
                · exact fun e => hIo e.symm
                · rcases List.mem_cons.mp hp with rfl | hp
                  · exact fun e => hI2 e.symm
                  · rcases List.mem_append.mp hp with hp | hp
                    · exact hoff2 p (by simp only [List.mem_cons, List.mem_append] at hp ⊢; exact .inr (.inr (.inl hp)))
                    · exact f12.head p hp
            | true =>
              have he : R one part ≠ [] := by simpa using hb1
              have htl2 : (((tx (R one part)).length : Nat) : Int) = (((R one part).length : Nat) : Int) := by rw [tx_length]
              have hw : (wayIn R part count st one).1 = fun n => if n = (R one part).length then some (R one part, ((st.1 (R one part).length).getD ([], 0)).2 + count) else st.1 n := by unfold wayIn; dsimp only; rw [hcond, if_pos he]
              have hne4 : ∀ p ∈ (tl3 ++ own) ++ b4, p.1 ≠ d := fun p hp => (List.mem_append.mp hp).elim (f9 p) (fun h => f12 (d, ow3) (by simp) p h)
              have hsz4 : kvs3.length ≤ sizeLine := le_sizeLine (by omega)
              rcases f3 (R one part).length with zz41 | zz42
              · obtain ⟨q4, q5⟩ := zz41
                revert q4 q5
                intro q4 q5
                rw [← htl2] at q5
                k_steps
                rename_i k9 D9 h9 l9 D' h8 F8 N8 l8 h7 o7 F7 N7 hd7
                have hz0 : (0 : Int) + ((count : Nat) : Int) = ((0 + count : Nat) : Int) := by simp
                rw [hz0] at N7
                obtain ⟨tk9, oD9, N9⟩ : ∃ tk9 oD9, News _ _ h7 ((D', wayO (R one part) (((st.1 (R one part).length).getD ([], 0)).2 + count) t7 tk9) :: (D9, oD9) :: (I2, oI2) :: (I, oI) :: (d, o7) :: ((tl3 ++ own) ++ b4)) := ⟨_, _, by rw [q4]; exact N7⟩
                revert tk9 oD9 N9
                intro tk9 oD9 N9
                clear N7 N8
                refine AgainF.next F7 N9 (Sub.cons (by simp) (fun _ h => nomatch h)) (news' := (I, oI) :: (d, o7) :: (((D', wayO (R one part) (((st.1 (R one part).length).getD ([], 0)).2 + count) t7 tk9) :: tl3) ++ own ++ b4)) ?sub ?off ⟨by k_extra "kept", o7, _, (D', wayO (R one part) (((st.1 (R one part).length).getD ([], 0)).2 + count) t7 tk9) :: tl3, b4, k3 + 1, hd7, ?len, ?wr, by rw [hfold2]; exact ⟨_, rfl⟩, ?pp, f11, by omega, ?ap, ?ned, ?neI, rfl⟩
                case sub =>
                  intro p hp
                  simp only [List.cons_append, List.mem_cons] at hp ⊢
                  rcases hp with h | h | h | h
                  · exact .inr (.inr (.inr (.inl h)))
                  · exact .inr (.inr (.inr (.inr (.inl h))))
                  · exact .inl h
                  · exact .inr (.inr (.inr (.inr (.inr h))))
                case len => have := stored_length_le kvs3 (((tx (R one part)).length : Nat) : Int) (Value.ref D'); omega
                case wr => rw [hfold2, hw]; exact f3.put htl2
                case pp =>
                  rw [hfold2, hw]
                  intro n p c hn
                  dsimp only at hn
                  by_cases e : n = (R one part).length
                  · rw [if_pos e] at hn; cases hn; exact ⟨hD3 he, hD2⟩
                  · rw [if_neg e] at hn; exact f5 n p c hn
                case ap =>
                  intro q hq p hp
                  simp only [List.cons_append, List.mem_cons] at hq
                  rcases hq with rfl | rfl | rfl | hq
                  · exact f12 (I, oI) (by simp) p hp
                  · exact f12 (d, ow3) (by simp) p hp
                  · exact Nat.ne_of_lt (AllLt.mem l8.2.2.2.2 p (List.mem_append_right _ hp))
                  · exact f12 q (by simp only [List.mem_cons]; exact .inr (.inr (.inr hq))) p hp
                case ned =>
                  intro p hp
                  rcases List.mem_cons.mp hp with rfl | hp
                  · exact Nat.ne_of_gt l8.2.2.2.1
                  · exact f9 p hp
                case neI =>
                  intro p hp
                  rcases List.mem_cons.mp hp with rfl | hp
                  · exact Nat.ne_of_gt l8.2.2.1
                  · exact f10 p hp
                case off =>
                  intro p hp q hq
                  rw [List.mem_singleton.mp hq]
                  simp only [List.cons_append, List.mem_cons] at hp
                  rcases hp with rfl | rfl | rfl | hp
                  · exact fun e => hIo e.symm
                  · exact fun e => hI2 e.symm
                  · exact Nat.ne_of_gt l8.2.1
                  · rcases List.mem_append.mp hp with hp | hp
                    · exact hoff2 p (by simp only [List.mem_cons, List.mem_append] at hp ⊢; exact .inr (.inr (.inl hp)))
                    · exact f12.head p hp
              · obtain ⟨p', c', T, t8, t9, q4, q5, q6⟩ := zz42
                revert p' c' T t8 t9 q4 q5 q6
                intro p' c' T t8 t9 q4 q5 q6
                rw [← htl2] at q5
                have q7 : (T, wayO p' c' t8 t9) ∈ (tl3 ++ own) ++ b4 := List.mem_append_left _ (List.mem_append_left _ q6)
                k_steps
                rename_i k9 D9 h9 l9 D' h8 F8 N8 l8 h7 o7 F7 N7 hd7
                obtain ⟨tk9, oD9, N9⟩ : ∃ tk9 oD9, News _ _ h7 ((D', wayO (R one part) (((st.1 (R one part).length).getD ([], 0)).2 + count) t7 tk9) :: (D9, oD9) :: (I2, oI2) :: (I, oI) :: (d, o7) :: ((tl3 ++ own) ++ b4)) := ⟨_, _, by rw [q4]; exact N7⟩
                revert tk9 oD9 N9
                intro tk9 oD9 N9
                clear N7 N8
                refine AgainF.next F7 N9 (Sub.cons (by simp) (fun _ h => nomatch h)) (news' := (I, oI) :: (d, o7) :: (((D', wayO (R one part) (((st.1 (R one part).length).getD ([], 0)).2 + count) t7 tk9) :: tl3) ++ own ++ b4)) ?sub ?off ⟨by k_extra "kept", o7, _, (D', wayO (R one part) (((st.1 (R one part).length).getD ([], 0)).2 + count) t7 tk9) :: tl3, b4, k3 + 1, hd7, ?len, ?wr, by rw [hfold2]; exact ⟨_, rfl⟩, ?pp, f11, by omega, ?ap, ?ned, ?neI, rfl⟩
                case sub =>
                  intro p hp
                  simp only [List.cons_append, List.mem_cons] at hp ⊢
                  rcases hp with h | h | h | h
                  · exact .inr (.inr (.inr (.inl h)))
                  · exact .inr (.inr (.inr (.inr (.inl h))))
                  · exact .inl h
                  · exact .inr (.inr (.inr (.inr (.inr h))))
                case len => have := stored_length_le kvs3 (((tx (R one part)).length : Nat) : Int) (Value.ref D'); omega
                case wr => rw [hfold2, hw]; exact f3.put htl2
                case pp =>
                  rw [hfold2, hw]
                  intro n p c hn
                  dsimp only at hn
                  by_cases e : n = (R one part).length
                  · rw [if_pos e] at hn; cases hn; exact ⟨hD3 he, hD2⟩
                  · rw [if_neg e] at hn; exact f5 n p c hn
                case ap =>
                  intro q hq p hp
                  simp only [List.cons_append, List.mem_cons] at hq
                  rcases hq with rfl | rfl | rfl | hq
                  · exact f12 (I, oI) (by simp) p hp
                  · exact f12 (d, ow3) (by simp) p hp
                  · exact Nat.ne_of_lt (AllLt.mem l8.2.2.2.2 p (List.mem_append_right _ hp))
                  · exact f12 q (by simp only [List.mem_cons]; exact .inr (.inr (.inr hq))) p hp
                case ned =>
                  intro p hp
                  rcases List.mem_cons.mp hp with rfl | hp
                  · exact Nat.ne_of_gt l8.2.2.2.1
                  · exact f9 p hp
                case neI =>
                  intro p hp
                  rcases List.mem_cons.mp hp with rfl | hp
                  · exact Nat.ne_of_gt l8.2.2.1
                  · exact f10 p hp
                case off =>
                  intro p hp q hq
                  rw [List.mem_singleton.mp hq]
                  simp only [List.cons_append, List.mem_cons] at hp
                  rcases hp with rfl | rfl | rfl | hp
                  · exact fun e => hIo e.symm
                  · exact fun e => hI2 e.symm
                  · exact Nat.ne_of_gt l8.2.1
                  · rcases List.mem_append.mp hp with hp | hp
                    · exact hoff2 p (by simp only [List.mem_cons, List.mem_append] at hp ⊢; exact .inr (.inr (.inl hp)))
                    · exact f12.head p hp
theorem main (hR : RestC w 870 f ⟨foc, fod, .func ffd, fsl⟩ R Dm Inv) (hc : (lc, W.listOf cvs.toArray cc) ∈ own) (hcv : F2 TxtV code cvs) (hlen : text.length ≤ 100) (hclen : code.length ≤ 10) (hP : P text) (hPs : ∀ c ∈ code, ∀ part, P part → Dm c part ∧ (R c part).length ≤ 200 ∧ (R c part ≠ [] → P (R c part))) (hI : Inv kb bs) (hkb : kb + 1000 < 1000000) (hap : Apart own bs) : FnG w 860 166 [.ref lc, .str (tx text) t0, .ref f] (own ++ bs) (ReadP R code text Inv kb own) p loose mean mg mb dp un gd cn cs a ccd cl outer A₀ base h₀ L m s Q E := by
  intro B F X N T C1 C2 hk hd hu hret
  refine wpAny_call ?_
  with_unfolding_all refine' code_my (binds := [(PySem.Str.ofString "rest", .ref f), (PySem.Str.ofString "text", .str (tx text) t0), (PySem.Str.ofString "code", .ref lc)]) B F X N T C1 C2 ?kA ?kF ?kK ?ko ?est ?kcd ?kroom ?kbind ?kloc (fun g₁ l₁ h₁ t₁ _ => pick_all evne (P := fun e => BH e.g e.l e.h e.t) ?bd ⟨g₁, l₁, h₁, t₁⟩) ?kco ?kgen ?kkind ?kcell
  (case kA => exact rfl)
  (case kF => exact rfl)
  (case kK => exact hk)
  (case ko => k_is)
  (case est => exact rfl)
  (case kcd => k_is)
  (case kroom => (show dp < 1000; omega))
  (case kbind => exact BindsTo.of_eq rfl)
  (case kloc => exact locs rfl)
  (case kco => exact rfl)
  (case kgen => exact rfl)
  (case kkind => exact rfl)
  (case kcell => decide)
  (case bd => with_unfolding_all exact body hR hc hcv hlen hclen hP hPs hI hkb hap B X T C1 C2 hk hd hu hret)
theorem goal_q : Goal q := by with_unfolding_all exact main
end Kreadings
theorem readings (w : World) (f : Addr) (of : Obj) (R : List Nat → List Nat → List Nat) (Dm : List Nat → List Nat → Prop) (Inv : Nat → Led → Prop) (hR : RestC w 870 f of R Dm Inv)
    (lc : Addr) (cc : Nat) (code : List (List Nat)) (cvs : List Value) (text : List Nat) (t0 : Tok) (own bs : Led) (kb : Nat) (P : List Nat → Prop)
    (hc : (lc, W.listOf cvs.toArray cc) ∈ own) (hcv : F2 TxtV code cvs) (hlen : text.length ≤ 100) (hclen : code.length ≤ 10)
    (hP : P text) (hPs : ∀ c ∈ code, ∀ part, P part → Dm c part ∧ (R c part).length ≤ 200 ∧ (R c part ≠ [] → P (R c part)))
    (hI : Inv kb bs) (hkb : kb + 1000 < 1000000) (hap : Apart own bs) :
    Fn w 860 166 [.ref lc, .str (tx text) t0, .ref f] (own ++ bs) (ReadP R code text Inv kb own) := by
  obtain ⟨foc, fod, ffd, fsl, rfl⟩ := hR.fn
  exact fun p loose mean mg mb dp un gd cn cs a ccd cl outer A₀ base h₀ L m s Q E => pick_all Kreadings.ne (P := Kreadings.Goal) Kreadings.goal_q ⟨w, f, foc, fod, ffd, fsl, R, Dm, Inv, lc, cc, code, cvs, text, t0, own, bs, kb, P, p, loose, mean, mg, mb, dp, un, gd, cn, cs, a, ccd, cl, outer, A₀, base, h₀, L, m, s, Q, E⟩ hR hc hcv hlen hclen hP hPs hI hkb hap
end S_FLr
section S_Sx
section
variable {base h₀ : Heap} {outer : List Env} {L : Addr} {m : PySem.Str → Option Value} {A₀ A : Around} {env : Env}
noncomputable def frs (l : List Env) : List Addr := l.filterMap (·.frame)
theorem frs_cons (hf : env.frame = some L) : frs (env :: outer) = L :: frs outer := by
  unfold frs; rw [List.filterMap_cons]; simp [hf]
inductive LeaveT (A₀ : Around) (base : Heap) (env : Env) (outer : List Env) (h₀ : Heap) (L : Addr) (m : PySem.Str → Option Value) (g : Heap) (R : Result → Shared → Prop) (v : Value) (s' : Shared) : Prop
  | mk (g' : Heap) (L' : Addr) (m' : PySem.Str → Option Value) (news' : Led) (c1 : KtsTurn (frs (env :: outer)) g g') (c2 : Fr g' L' s'.heap m') (c3 : News g' L' s'.heap news') (c4 : ∀ h', KtsTurn (frs outer) h₀ h' → Fr h' L s'.heap m → News h' L s'.heap news' → Below A₀ base outer h' → KtsDicts (frs outer) h' → R (.ok (.ret v)) s') : LeaveT A₀ base env outer h₀ L m g R v s'
theorem leaveT_up {g H : Heap} {g' : Heap} {L' : Addr} {m' : PySem.Str → Option Value} {news' : Led} (B : Below A₀ base outer h₀) (st : h₀.StaysIn g) (nL : h₀.get? L = none) (FG : Fr h₀ L g m) (D : KtsDicts (frs outer) h₀) (hf : env.frame = some L)
    (T : KtsTurn (frs (env :: outer)) g g') (F' : Fr g' L' H m') (N' : News g' L' H news') :
    ∃ h', KtsTurn (frs outer) h₀ h' ∧ Fr h' L H m ∧ News h' L H news' ∧ Below A₀ base outer h' ∧ KtsDicts (frs outer) h' := by
  rw [frs_cons hf] at T
  have hup : ∀ b o, h₀.get? b = some o → ∃ sl, H.get? b = some { o with slots := sl } := fun b o e => by
    obtain ⟨sl, hs⟩ := T.up (st b o e)
    exact ⟨sl, F'.keep _ _ hs⟩
  obtain ⟨T₁, S₁⟩ := kts_turn_at (fs := frs outer) (g := h₀) (h := H)
    (fun b hb => let ⟨o, ho, _⟩ := (B.frames.mem hb).2; ⟨o, ho⟩)
    (fun b o e hb => F'.keep b o (T.other b o (st b o e) fun hm => (List.mem_cons.mp hm).elim (fun q => by rw [q, nL] at e; cases e) hb))
    (fun b o e _ => hup b o e)
  obtain ⟨oL, es, ep, e1, e2, e3, e4⟩ := FG.ns
  obtain ⟨slL, hL⟩ := T.up e1
  refine ⟨_, T₁, ⟨⟨_, es, ep, F'.keep _ _ hL, e2, e3, e4⟩, S₁, by rw [T₁.size]; exact FG.above⟩, fun p hp => ⟨(N' p hp).1, fun q => ?_, T₁.none_ _ ?_⟩, ⟨B.stack, fun b o e => ?_, B.frames.of_keeps fun b o e _ => ?_⟩, D.turn T₁⟩
  · have := (N' p hp).2.2
    rw [q, hL] at this; cases this
  · cases q : h₀.get? p.1 with
    | none => rfl
    | some o =>
      obtain ⟨sl, hs⟩ := T.up (st _ _ q)
      have := (N' p hp).2.2
      rw [hs] at this; cases this
  · exact T₁.other b o (B.stays b o e) fun hm => by rw [(B.frames.mem hm).1] at e; cases e
  · obtain ⟨sl, hs⟩ := T₁.up e
    exact ⟨_, hs, rfl⟩
end
section
variable {prog : Program} {w : World} {A₀ A : Around} {s : Shared} {base h₀ : Heap} {outer : List Env} {L : Addr} {m : PySem.Str → Option Value} {env : Env} {news : Led}
  {R : Result → Shared → Prop} {name qual : PySem.Str} {params : Arguments} {body : List Stmt} {scope : Scope} {cl : List (PySem.Str × Addr)} {dV kV doc pm cdv ct : Value} {an : Option Addr} {fo : Obj} {f : Addr} {args : Args} {binds : List (PySem.Str × Value)}
theorem dicts_push {g : Heap} (FG : Fr h₀ L g m) (D : KtsDicts (frs outer) h₀) (hf : env.frame = some L) : KtsDicts (frs (env :: outer)) g := by
  rw [frs_cons hf]
  intro b hb
  rcases List.mem_cons.mp hb with rfl | hb
  · obtain ⟨o, es, ep, e1, e2, _⟩ := FG.ns
    exact ⟨o, es, ep, e1, e2⟩
  · obtain ⟨o, es, n, e1, e2⟩ := D b hb
    exact ⟨o, es, n, FG.keep b o e1, e2⟩
theorem callX_S (B : Below A₀ base outer h₀) (F : Fr h₀ L s.heap m) (N : News h₀ L s.heap news) (hlim : h₀.NoLimit) (D : KtsDicts (frs outer) h₀) (hA : A.frames = some (env :: outer)) (hf : env.frame = some L) (hke : env.scope.kind = .function)
    (ho : s.heap.get? f = some fo) (hd : fo.data = .func (fnX name qual params body scope [] dV kV doc pm an cdv ct)) (hcd : s.heap.CodeRec cdv qual) (hroom : A.depth < recursionLimit)
    (hbind : BindsTo s (fnX name qual params body scope [] dV kV doc pm an cdv ct) args binds)
    (hkind : ∀ n, ∀ x ∈ binds, scope.names.lookup x.1 = some .local ∨ (scope.names.lookup x.1 = some .cell ∧ ((cellsFrom n scope.names []).lookup x.1).isSome = true))
    (hnd : ((cellsFrom 0 scope.names []).map (·.1)).Nodup)
    (h : ∀ g L' h₁ tk cells, Fr h₀ L g m → Fr g L' h₁ (bindL (envOfC qual scope L' f cdv).kindOf binds fun _ => none) → News g L' h₁ (cells ++ news) →
      CellsAre (bindC (envOfC qual scope L' f cdv).kindOf binds fun _ => none) (cellsFrom (L' + 1) scope.names []) cells → Below A base (env :: outer) g → h₀.StaysIn g → (∀ p ∈ news, p.1 < L') → KtsDicts (frs (env :: outer)) g →
      wpAny (model prog w) (A.deeper (envOfC qual scope L' f cdv)) (execs body (envOfC qual scope L' f cdv))
        (fun fl s' => LeaveT A₀ base env outer h₀ L m g R (match fl with | .ret v => v | _ => .none) s')
        (fun e s' => wpAny (model prog w) (A.deeper (envOfC qual scope L' f cdv)) (leaving (envOfC qual scope L' f cdv) e) (fun _ s'' => R (.error e) s'') (fun e' s'' => R (.error e') s'') s')
        { s with heap := h₁, toks := tk })
    (hco : scope.isCoroutine = false := by rfl) (hgen : scope.isGenerator = false := by rfl) (hk : scope.kind = .function := by rfl) : codeAny (model prog w) A (.call (.ref f) args) R s := by
  obtain ⟨FG, BG, st, _⟩ := groundX (R := R) B F N hA hf hke
  refine codeAny_call_function hroom ho hd hco hgen rfl hcd (hbind _ _ _ _ ?_)
  refine wpAny_newFunctionEnv_cells hk (hkind _) fun env' he s' x => ?_
  subst he
  refine ⟨(hlim.keeps F.keep).keeps x.toInCall.keep, codeAny_func ?_⟩
  obtain ⟨h₁, tk, rfl, _⟩ := x.done
  have hk₁ := x.toInCall.keep
  obtain ⟨cells, NC, Y⟩ := Cl.news (h₀ := s.heap) (Nat.le_refl _) fun n c hm => ⟨x.cell n c (lookup_of_mem_nodup (cellsFrom_names scope.names 0 (s.heap.objs.size + 1) [] [] rfl ▸ hnd) hm), x.above n c hm⟩
  have NN : News (hideAll s.heap (news.map (·.1))) s.heap.objs.size h₁ (cells ++ news) := fun p hp => by
    rcases List.mem_append.mp hp with hp | hp
    · refine ⟨(NC p hp).1, (NC p hp).2.1, ?_⟩
      cases q : (hideAll s.heap (news.map (·.1))).get? p.1 with
      | none => rfl
      | some o => have := of_hideAll _ q; rw [(NC p hp).2.2] at this; cases this
    · exact ⟨hk₁ _ _ (N p hp).1, Nat.ne_of_lt (Heap.lt_size (N p hp).1), hideAll_none _ (List.mem_map_of_mem hp)⟩
  refine wpAny_mono (h _ s.heap.objs.size h₁ tk cells FG ⟨x.toInCall.ns, fun b o e => hk₁ b o (of_hideAll _ e), Nat.le_of_eq (hideAll_size _ _)⟩ NN Y BG st (fun p hp => Heap.lt_size (N p hp).1) (dicts_push FG D hf)) (fun fl s' hl => ?_) fun _ _ y => y
  obtain ⟨g', L', m', news', T', F', N', k⟩ := hl
  obtain ⟨h', q1, q2, q3, q4, q5⟩ := leaveT_up (env := env) B st (kts_self F) FG D hf T' F' N'
  exact k h' q1 q2 q3 q4 q5
end
noncomputable def FnS (w : World) (d : Nat) (f : Addr) (vs : List Value) (news : Led) (Post : Value → Led → Prop) : Prop :=
  ∀ (p : Program) (loose : List PySem.Str) (mean : ExcName → Option Value) (mg mb : PySem.Str → Option Value) (dp un : Nat) (gd : Option (List Code)) (cn : PySem.Str) (cs : Scope) (a : Addr) (ccd : Value) (cl : List (PySem.Str × Addr)) (outer : List Env) (A₀ : Around) (base h₀ : Heap) (L : Addr) (m : PySem.Str → Option Value) (s : Shared) (Q E : Value → Shared → Prop),
    Below A₀ base outer h₀ → Fr h₀ L s.heap m → News h₀ L s.heap news → (K0 w.params).In base → Top p loose mean mg mb base → CodeHd base 61 57 → CodeHd base 170 168 → KtsDicts (frs outer) h₀ → cs.kind = .function → dp < d → un < 8 * d →
    (∀ h r news' h' tk', KtsTurn (frs outer) h₀ h → Below A₀ base outer h → KtsDicts (frs outer) h → Fr h L h' m → News h L h' news' → Post r news' → Q r { s with heap := h', toks := tk' }) →
    wpAny (model P0 w) (ktrTop dp un gd cn cs L a ccd cl outer) (call (.ref f) vs) Q E s
theorem fn_inS {w : World} {d : Nat} {f : Addr} {vs : List Value} {news : Led} {Post : Value → Led → Prop}
  (h : ∀ (p : Program) (loose : List PySem.Str) (mean : ExcName → Option Value) (mg mb : PySem.Str → Option Value) (dp un : Nat) (gd : Option (List Code)) (cn : PySem.Str) (cs : Scope) (a : Addr) (ccd : Value) (cl : List (PySem.Str × Addr)) (outer : List Env) (A₀ : Around) (base h₀ : Heap) (L : Addr) (m : PySem.Str → Option Value) (s : Shared) (Q E : Value → Shared → Prop),
    Below A₀ base outer h₀ → Fr h₀ L s.heap m → News h₀ L s.heap news → (K0 w.params).In base → Top p loose mean mg mb base → CodeHd base 61 57 → CodeHd base 170 168 → KtsDicts (frs outer) h₀ → cs.kind = .function → dp < d → un < 8 * d →
    (∀ h r news' h' tk', KtsTurn (frs outer) h₀ h → Below A₀ base outer h → KtsDicts (frs outer) h → Fr h L h' m → News h L h' news' → Post r news' → Q r { s with heap := h', toks := tk' }) →
    codeAny (model P0 w) (ktrTop dp un gd cn cs L a ccd cl outer) (.call (.ref f) ⟨vs, []⟩) (fun r s' => match r with | .ok (.ret v) => Q v s' | .ok _ => False | .error e => E e s') s) : FnS w d f vs news Post := by
  intro p loose mean mg mb dp un gd cn cs a ccd cl outer A₀ base h₀ L m s Q E B F N X T C1 C2 D hk hd hu hret
  exact wpAny_call (h p loose mean mg mb dp un gd cn cs a ccd cl outer A₀ base h₀ L m s Q E B F N X T C1 C2 D hk hd hu hret)
section
variable {prog : Program} {w : World} {A A₀ : Around} {s : Shared} {h₀ base : Heap} {m : PySem.Str → Option Value} {news : Led} {L : Addr}
theorem code_myS {p : Program} {loose : List PySem.Str} {mean : ExcName → Option Value} {mg mb : PySem.Str → Option Value} {env : Env} {outer : List Env} {R : Result → Shared → Prop} {i : Nat} {pm : Value} {c : Addr} {f : Addr} {args : Args} {binds : List (PySem.Str × Value)}
    {st : Stmt} {rest : List Stmt} {nm bd : PySem.Str} {ar : Arguments} {sc : Scope} {dl : List Expr} {rt : Option Expr} {tps : List TypeParam} {tsc : Option Scope} {ps : Pos}
    (B : Below A₀ base outer h₀) (F : Fr h₀ L s.heap m) (N : News h₀ L s.heap news) (X : (K0 w.params).In base) (T : Top p loose mean mg mb base) (D : KtsDicts (frs outer) h₀) (hA : A.frames = some (env :: outer)) (hf : env.frame = some L) (hke : env.scope.kind = .function)
    (ho : (K0 w.params).lookup f = some (fobj i pm c)) (est : stm i = .FunctionDef nm ar (st :: rest) dl rt tps sc tsc bd ps) (hcd : codeIn (K0 w.params) (.ref c) nm = true) (hroom : A.depth < recursionLimit)
    (hbind : BindsTo s (fnOf nm nm ar (st :: rest) sc .none .none .none pm none (.ref c) .none) args binds)
    (hkind : ∀ n, ∀ x ∈ binds, sc.names.lookup x.1 = some .local ∨ (sc.names.lookup x.1 = some .cell ∧ ((cellsFrom n sc.names []).lookup x.1).isSome = true))
    (hnd : ((cellsFrom 0 sc.names []).map (·.1)).Nodup)
    (h : ∀ g L' h₁ tk cells, Fr g L' h₁ (bindL (envOfC nm sc L' f (.ref c)).kindOf binds fun _ => none) → News g L' h₁ (cells ++ news) →
      CellsAre (bindC (envOfC nm sc L' f (.ref c)).kindOf binds fun _ => none) (cellsFrom (L' + 1) sc.names []) cells → Below A base (env :: outer) g → (∀ p ∈ news, p.1 < L') → KtsDicts (frs (env :: outer)) g →
      wpAny (model prog w) (A.deeper (envOfC nm sc L' f (.ref c))) (execs (st :: rest) (envOfC nm sc L' f (.ref c)))
        (fun fl s' => LeaveT A₀ base env outer h₀ L m g R (match fl with | .ret v => v | _ => .none) s')
        (fun e s' => wpAny (model prog w) (A.deeper (envOfC nm sc L' f (.ref c))) (leaving (envOfC nm sc L' f (.ref c)) e) (fun _ s'' => R (.error e) s'') (fun e' s'' => R (.error e') s'') s')
        { s with heap := h₁, toks := tk })
    (hco : sc.isCoroutine = false) (hgen : sc.isGenerator = false) (hk : sc.kind = .function) : codeAny (model prog w) A (.call (.ref f) args) R s := by
  unfold fobj at ho
  rw [est] at ho
  have X₀ := X.keeps (fun b o e => F.keep b o (B.stays b o e))
  exact callX_S B F N (T.nolimit.keeps B.stays) D hA hf hke (X₀ _ _ ho) rfl (codeRec_of X₀ hcd) hroom hbind hkind hnd (fun g L' h₁ tk cells _ F' N' Y B' _ lt D' => h g L' h₁ tk cells F' N' Y B' lt D') hco hgen hk
end
end S_Sx
section S_PkS
noncomputable def FnSG (w : World) (d : Nat) (f : Addr) (vs : List Value) (news : Led) (Post : Value → Led → Prop) (p : Program) (loose : List PySem.Str) (mean : ExcName → Option Value) (mg mb : PySem.Str → Option Value) (dp un : Nat) (gd : Option (List Code)) (cn : PySem.Str) (cs : Scope) (a : Addr) (ccd : Value) (cl : List (PySem.Str × Addr)) (outer : List Env) (A₀ : Around) (base h₀ : Heap) (L : Addr) (m : PySem.Str → Option Value) (s : Shared) (Q E : Value → Shared → Prop) : Prop :=
    Below A₀ base outer h₀ → Fr h₀ L s.heap m → News h₀ L s.heap news → (K0 w.params).In base → Top p loose mean mg mb base → CodeHd base 61 57 → CodeHd base 170 168 → KtsDicts (frs outer) h₀ → cs.kind = .function → dp < d → un < 8 * d →
    (∀ h r news' h' tk', KtsTurn (frs outer) h₀ h → Below A₀ base outer h → KtsDicts (frs outer) h → Fr h L h' m → News h L h' news' → Post r news' → Q r { s with heap := h', toks := tk' }) →
    wpAny (model P0 w) (ktrTop dp un gd cn cs L a ccd cl outer) (call (.ref f) vs) Q E s
noncomputable def BodyS (w : World) (f c : Addr) (i : Nat) (binds : List (PySem.Str × Value)) (news : Led) (dp un : Nat) (gd : Option (List Code)) (cn : PySem.Str) (cs : Scope) (a : Addr) (ccd : Value) (cl : List (PySem.Str × Addr)) (outer : List Env) (A₀ : Around) (base h₀ : Heap) (L : Addr) (m : PySem.Str → Option Value) (s : Shared) (Q E : Value → Shared → Prop)
    {st : Stmt} {rest : List Stmt} {nm bd : PySem.Str} {ar : Arguments} {sc : Scope} {dl : List Expr} {rt : Option Expr} {tps : List TypeParam} {tsc : Option Scope} {ps : Pos} (_ : stm i = .FunctionDef nm ar (st :: rest) dl rt tps sc tsc bd ps) (g : Heap) (L' : Addr) (h₁ : Heap) (tk₁ : Nat) : Prop :=
  ∀ cells, Fr g L' h₁ (bindL (envOfC nm sc L' f (.ref c)).kindOf binds fun _ => none) → News g L' h₁ (cells ++ news) →
      CellsAre (bindC (envOfC nm sc L' f (.ref c)).kindOf binds fun _ => none) (cellsFrom (L' + 1) sc.names []) cells → Below (ktrTop dp un gd cn cs L a ccd cl outer) base (envX cn cs L a ccd cl :: outer) g → (∀ p ∈ news, p.1 < L') → KtsDicts (frs (envX cn cs L a ccd cl :: outer)) g →
      wpAny (model P0 w) ((ktrTop dp un gd cn cs L a ccd cl outer).deeper (envOfC nm sc L' f (.ref c))) (execs (st :: rest) (envOfC nm sc L' f (.ref c)))
        (fun fl s' => LeaveT A₀ base (envX cn cs L a ccd cl) outer h₀ L m g (fun r s' => match r with | .ok (.ret v) => Q v s' | .ok _ => False | .error e => E e s') (match fl with | .ret v => v | _ => .none) s')
        (fun e s' => wpAny (model P0 w) ((ktrTop dp un gd cn cs L a ccd cl outer).deeper (envOfC nm sc L' f (.ref c))) (leaving (envOfC nm sc L' f (.ref c)) e) (fun _ s'' => E e s'') (fun e' s'' => E e' s'') s')
        ⟨h₁, s.gens, s.drawn, tk₁, s.os⟩
end S_PkS
section S_Ex
noncomputable def ExcO (oe : Obj) (T ctx : Value) : Prop := oe.cls = .type "IndexError" ∧ ∃ a x4 x5, oe.data = .fields #[a, T, ctx, .none, x4, x5]
noncomputable def TbO (oT : Obj) (fl : Value) : Prop := ∃ ts, oT.data = .fields ts ∧ ts[3]? = some fl
theorem ExcO.setTb {oe : Obj} {T ctx : Value} (h : ExcO oe T ctx) (T' : Value) : ExcO (Obj.mapFields (·.setIfInBounds 1 T') oe) T' ctx := by
  obtain ⟨h1, a, x4, x5, h2⟩ := h
  refine ⟨(Obj.cls_mapFields _ _).trans h1, a, x4, x5, ?_⟩
  rw [Obj.data_mapFields h2]; rfl
theorem ExcO.setCtx {oe : Obj} {T ctx : Value} (h : ExcO oe T ctx) (c' : Value) : ExcO (Obj.mapFields (·.setIfInBounds 2 c') oe) T c' := by
  obtain ⟨h1, a, x4, x5, h2⟩ := h
  refine ⟨(Obj.cls_mapFields _ _).trans h1, a, x4, x5, ?_⟩
  rw [Obj.data_mapFields h2]; rfl
theorem TbO.set {oT : Obj} {fl : Value} (h : TbO oT fl) (fl' : Value) : TbO (Obj.mapFields (·.setIfInBounds 3 fl') oT) fl' := by
  obtain ⟨ts, h1, h2⟩ := h
  refine ⟨_, Obj.data_mapFields h1 _, ?_⟩
  have := (Array.getElem?_eq_some_iff.mp h2).1
  simp [this]
section
variable {base g h h' : Heap} {outer : List Env} {L : Addr} {m : PySem.Str → Option Value} {A₀ : Around} {env : Env}
theorem ground_up (B : Below A₀ base outer g) (F : Fr g L h m) (D : KtsDicts (frs outer) g) (nf : ∀ b o, g.get? b = some o → b ∉ frs outer → h'.get? b = some o) (up : ∀ b o, g.get? b = some o → ∃ sl, h'.get? b = some { o with slots := sl }) (hL : h'.Ns L m) :
    ∃ g', KtsTurn (frs outer) g g' ∧ Fr g' L h' m ∧ Below A₀ base outer g' ∧ KtsDicts (frs outer) g' := by
  obtain ⟨T₁, S₁⟩ := kts_turn_at (fs := frs outer) (g := g) (h := h') (fun b hb => let ⟨o, ho, _⟩ := (B.frames.mem hb).2; ⟨o, ho⟩) nf (fun b o e _ => up b o e)
  refine ⟨_, T₁, ⟨hL, S₁, by rw [T₁.size]; exact F.above⟩, ⟨B.stack, fun b o e => ?_, B.frames.of_keeps fun b o e _ => ?_⟩, D.turn T₁⟩
  · exact T₁.other b o (B.stays b o e) fun hm => by rw [(B.frames.mem hm).1] at e; cases e
  · obtain ⟨sl, hs⟩ := T₁.up e
    exact ⟨_, hs, rfl⟩
end
section
variable {prog : Program} {w : World} {M : Model} {A₀ A : Around} {s : Shared} {base g : Heap} {outer : List Env} {L e T : Addr} {m : PySem.Str → Option Value} {env : Env} {news : Led} {oe oT : Obj} {ctx fl : Value} {E : Value → Shared → Prop}
theorem note_new {Q : Unit → Shared → Prop} (hA : A.frames = some (env :: outer)) (B : Below A₀ base outer g) (F : Fr g L s.heap m) (N : News g L s.heap ((e, oe) :: news)) (hne : ∀ p ∈ news, p.1 ≠ e) (hx : ExcO oe .none ctx) (hf : env.frame = some L) (hke : env.scope.kind = .function) (D : KtsDicts (frs outer) g)
    (k : ∀ h' g' T oe' oT, KtsTurn (frs outer) g g' → Fr g' L h' m → News g' L h' ((e, oe') :: (T, oT) :: news) → (∀ p ∈ news, p.1 < T) → T ≠ e → ExcO oe' (.ref T) ctx → TbO oT (rawInt L) → Below A₀ base outer g' → KtsDicts (frs outer) g' → Q () { s with heap := h' }) :
    wpAny M A (noteFrame (.ref e) env) Q E s := by
  obtain ⟨hcls, a, x4, x5, hd⟩ := id hx
  have he := (N _ List.mem_cons_self).1
  have B₁ := pushX B F hf hke
  unfold noteFrame
  simp only [hf]
  refine wpAny_bind (wpAny_field he hd (x := .none) rfl ?_)
  rw [if_neg (by decide)]
  refine wpAny_bind (wpAny_frameOf_fun hA B₁.frames hf fun h₁ hs₁ => ?_)
  refine wpAny_bind (wpAny_entryPlaceOf fun pl hpl => ?_)
  unfold EntryCells.newEntry newFields
  refine wpAny_bind (wpAny_newObj_type ?_ (hpl.sizeOk5 _ _ _ _ _))
  have hfl : ((env :: outer).filterMap (·.frame)) = L :: frs outer := frs_cons hf
  rw [hfl] at hs₁
  obtain ⟨z1, z2, z3⟩ := hs₁
  have gL : g.get? L = none := kts_self F
  have hfre : e ∉ L :: frs outer := fun hm => by
    rcases List.mem_cons.mp hm with q | hm
    · exact (N _ List.mem_cons_self).2.1 q
    · obtain ⟨_, o, ho, _⟩ := B.frames.mem hm
      rw [(N _ List.mem_cons_self).2.2] at ho; cases ho
  have hfrn : ∀ p ∈ news, p.1 ∉ L :: frs outer := fun p hp hm => by
    have n := N p (List.mem_cons_of_mem _ hp)
    rcases List.mem_cons.mp hm with q | hm
    · exact n.2.1 q
    · obtain ⟨_, o, ho, _⟩ := B.frames.mem hm
      rw [n.2.2] at ho; cases ho
  have he₁ : h₁.get? e = some oe := (z2 e hfre).trans he
  refine wpAny_setField (Heap.get?_push_of_some _ he₁) hd (by show 1 < 6; decide) ?_
  generalize hob : ({ cls := Value.type "traceback", dict := none, data := .fields ([Value.none, .ref L, .none, rawInt L, .none] ++ (if pl.isEmpty then List.replicate 6 Value.none else pl)).toArray } : Obj) = ob
  have hTe : h₁.objs.size ≠ e := Nat.ne_of_gt (Heap.lt_size he₁)
  have keep : ∀ b o, b ≠ e → h₁.get? b = some o → ((h₁.push ob).update e (Obj.mapFields (·.setIfInBounds 1 (Value.ref h₁.objs.size)))).get? b = some o := fun b o hb ho => by
    rw [Heap.get?_update_other _ _ (Ne.symm hb)]
    exact Heap.get?_push_of_some _ ho
  have gne : ∀ b o, g.get? b = some o → b ≠ e := fun b o ho q => by rw [q, (N _ List.mem_cons_self).2.2] at ho; cases ho
  have gnL : ∀ b o, g.get? b = some o → b ≠ L := fun b o ho q => by rw [q, gL] at ho; cases ho
  obtain ⟨oL, es, ep, e1, e2, e3, e4⟩ := F.ns
  obtain ⟨slL, hLs⟩ := z3 L oL e1
  obtain ⟨g', q1, q2, q3, q4⟩ := ground_up (h' := (h₁.push ob).update e (Obj.mapFields (·.setIfInBounds 1 (Value.ref h₁.objs.size)))) B F D
    (fun b o ho hb => keep b o (gne b o ho) ((z2 b fun hm => (List.mem_cons.mp hm).elim (gnL b o ho) hb).trans (F.keep b o ho)))
    (fun b o ho => by
      obtain ⟨sl, hs⟩ := z3 b o (F.keep b o ho)
      exact ⟨sl, keep b _ (gne b o ho) hs⟩)
    ⟨_, es, ep, keep L _ (fun q => (N _ List.mem_cons_self).2.1 q.symm) hLs, e2, e3, e4⟩
  have hgn : ∀ {b : Addr}, g.get? b = none → g'.get? b = none := fun h => q1.none_ _ h
  have hTn : g.get? h₁.objs.size = none := Heap.get?_none_of_le (Nat.le_trans F.above (by
    have : L < h₁.objs.size := Heap.lt_size hLs
    exact Nat.le_of_lt this))
  have hTL : h₁.objs.size ≠ L := Nat.ne_of_gt (Heap.lt_size hLs)
  refine k _ g' h₁.objs.size (Obj.mapFields (·.setIfInBounds 1 (Value.ref h₁.objs.size)) oe) ob q1 q2 (fun p hp => ?_) (fun p hp => ?_) hTe (hx.setTb _) ?_ q3 q4
  · rcases List.mem_cons.mp hp with rfl | hp
    · exact ⟨Heap.get?_update_self _ (Heap.get?_push_of_some _ he₁) (Obj.isFreed_of_fields (Obj.data_mapFields hd _)), (N _ List.mem_cons_self).2.1, hgn (N _ List.mem_cons_self).2.2⟩
    · rcases List.mem_cons.mp hp with rfl | hp
      · refine ⟨?_, hTL, hgn hTn⟩
        rw [Heap.get?_update_other _ _ (Ne.symm hTe)]
        exact Heap.get?_push_size _ (by rw [← hob]; rfl)
      · have n := N p (List.mem_cons_of_mem _ hp)
        exact ⟨keep _ _ (hne p hp) ((z2 _ (hfrn p hp)).trans n.1), n.2.1, hgn n.2.2⟩
  · exact Heap.lt_size ((z2 _ (hfrn p hp)).trans (N p (List.mem_cons_of_mem _ hp)).1)
  · exact ⟨_, by rw [← hob], rfl⟩
theorem note_again {Q : Unit → Shared → Prop} (N : News g L s.heap news) (he : (e, oe) ∈ news) (hT : (T, oT) ∈ news) (hx : ExcO oe (.ref T) ctx) (ht : TbO oT (rawInt L)) (hf : env.frame = some L) (h : Q () s) : wpAny M A (noteFrame (.ref e) env) Q E s := by
  obtain ⟨hcls, a, x4, x5, hd⟩ := hx
  obtain ⟨ts, hd2, h3⟩ := ht
  unfold noteFrame
  simp only [hf]
  refine wpAny_bind (wpAny_field (N _ he).1 hd (x := .ref T) rfl ?_)
  rw [if_pos (show (Value.ref T != Value.none) = true from by simp)]
  refine wpAny_bind (wpAny_field (N _ hT).1 hd2 h3 ?_)
  rw [if_pos (show (rawInt L == rawInt L) = true from by simp)]
  exact wpAny_pure h
theorem set_flight {Q : Unit → Shared → Prop} {fr : Option Addr} (F : Fr g L s.heap m) (N : News g L s.heap ((e, oe) :: (T, oT) :: news)) (hne : ∀ p ∈ news, p.1 ≠ T) (hTe : T ≠ e) (hx : ExcO oe (.ref T) ctx) (ht : TbO oT fl)
    (k : ∀ h' oT', Fr g L h' m → News g L h' ((e, oe) :: (T, oT') :: news) → TbO oT' (fr.elim .none fun f => rawInt f) → Q () { s with heap := h' }) : wpAny M A (setFlight (.ref e) fr) Q E s := by
  obtain ⟨hcls, a, x4, x5, hd⟩ := hx
  obtain ⟨ts, hd2, h3⟩ := id ht
  have hTm : (T, oT) ∈ ((e, oe) :: (T, oT) :: news) := List.mem_cons_of_mem _ List.mem_cons_self
  unfold setFlight
  refine wpAny_bind (wpAny_field (N _ List.mem_cons_self).1 hd (x := .ref T) rfl ?_)
  rw [if_pos (show (Value.ref T != Value.none) = true from by simp)]
  have hlt := (Array.getElem?_eq_some_iff.mp h3).1
  have other : ∀ b, b ≠ T → (s.heap.update T (Obj.mapFields (·.setIfInBounds 3 (fr.elim Value.none fun f => rawInt f)))).get? b = s.heap.get? b := fun b hb => Heap.get?_update_other _ _ (Ne.symm hb)
  refine wpAny_setField (N _ hTm).1 hd2 hlt (k _ (Obj.mapFields (·.setIfInBounds 3 (fr.elim Value.none fun f => rawInt f)) oT) ⟨?_, fun b o ho => (other b fun q => ?_).trans (F.keep b o ho), F.above⟩ (fun p hp => ?_) (ht.set _))
  · obtain ⟨oL, es, ep, e1, e2⟩ := F.ns
    exact ⟨oL, es, ep, (other L fun q => (N _ hTm).2.1 q.symm).trans e1, e2⟩
  · rw [q, (N _ hTm).2.2] at ho; cases ho
  · rcases List.mem_cons.mp hp with rfl | hp
    · exact ⟨(other _ (Ne.symm hTe)).trans (N _ List.mem_cons_self).1, (N _ List.mem_cons_self).2⟩
    · rcases List.mem_cons.mp hp with rfl | hp
      · exact ⟨Heap.get?_update_self _ (N _ hTm).1 (Obj.isFreed_of_fields (Obj.data_mapFields hd2 _)), (N _ hTm).2⟩
      · have n := N p (List.mem_cons_of_mem _ (List.mem_cons_of_mem _ hp))
        exact ⟨(other _ (hne p hp)).trans n.1, n.2⟩
end
end S_Ex
section S_Ex2
theorem entry_unchain : entryFor table "proto.unchain" = some Builtin.«proto.unchain» := entryFor_of_tree (by kernel_rfl)
section
variable {prog : Program} {w : World} {A : Around} {s : Shared} {E : Value → Shared → Prop} {α : Type}
theorem unchain_none {e e1 : Addr} {oe1 : Obj} {T1 : Value} {Q : Value → Shared → Prop} (he1 : s.heap.get? e1 = some oe1) (hx : ExcO oe1 T1 .none) (h : Q .none s) :
    wpAny (model prog w) A (runValue (.builtin "proto.unchain" ⟨[.ref e, .ref e1, .ref e1, .bool false], []⟩)) Q E s := by
  obtain ⟨_, a, x4, x5, hd⟩ := hx
  refine wpAny_runValue (codeAny_builtin entry_unchain ?_)
  unfold Builtin.«proto.unchain»
  dsimp only
  refine wpAny_bind (wpAny_field he1 hd (x := .none) rfl ?_)
  rw [if_pos (by rfl)]
  exact wpAny_pure h
theorem raise_ctx {e e1 : Addr} {oe1 oe : Obj} {T1 : Value} {Q : α → Shared → Prop} (hh : A.handled = some (.ref e1)) (he1 : s.heap.get? e1 = some oe1) (hx : ExcO oe1 T1 .none) (he : s.heap.get? e = some oe) (hxe : ExcO oe .none .none) (hne : e1 ≠ e)
    (h : E (.ref e) { s with heap := s.heap.update e (Obj.mapFields (·.setIfInBounds 2 (.ref e1))) }) : wpAny (model prog w) A (raiseNew (.ref e) : Sem α) Q E s := by
  unfold raiseNew
  refine wpAny_bind (wpAny_handled ?_)
  rw [hh]
  have hn : (Value.ref e1 != Value.ref e) = true := by simpa using hne
  dsimp only
  rw [if_pos hn]
  refine wpAny_bind (wpAny_holding (unchain_none he1 hx ?_))
  obtain ⟨_, a, x4, x5, hd⟩ := hxe
  unfold updateField
  refine wpAny_bind (wpAny_bind (wpAny_load he ?_))
  rw [hd]
  dsimp only
  rw [if_pos (by show 2 < 6; decide)]
  exact wpAny_update he (wpAny_throw h)
theorem raise_ctx_new {e1 : Addr} {oe1 : Obj} {T1 a0 : Value} {Q : α → Shared → Prop} (hh : A.handled = some (.ref e1)) (he1 : s.heap.get? e1 = some oe1) (hx : ExcO oe1 T1 .none)
    (h : ∀ h' e oe, (∀ b o, s.heap.get? b = some o → h'.get? b = some o) → s.heap.get? e = none → h'.get? e = some oe → ExcO oe .none (.ref e1) → E (.ref e) { s with heap := h' }) :
    wpAny (model prog w) A (newObj (.type "IndexError") (.fields (#[a0, .none, .none, .none, .bool false, .none] ++ #[]))) (fun e s' => wpAny (model prog w) A (raiseNew e : Sem α) Q E s') E s := by
  refine wpAny_newObj_type ?_
  generalize hob : ({ cls := Value.type "IndexError", dict := none, data := .fields (#[a0, .none, .none, .none, .bool false, .none] ++ #[]) } : Obj) = ob
  have hoe : (s.heap.push ob).get? s.heap.objs.size = some ob := Heap.get?_push_size _ (by rw [← hob]; rfl)
  have hxo : ExcO ob .none .none := by rw [← hob]; exact ⟨rfl, a0, _, _, rfl⟩
  have hne : e1 ≠ s.heap.objs.size := Nat.ne_of_lt (Heap.lt_size he1)
  refine raise_ctx hh (Heap.get?_push_of_some _ he1) hx hoe hxo hne ?_
  refine h _ _ _ (fun b o hb => ?_) (Heap.get?_none_of_le (Nat.le_refl _)) (Heap.get?_update_self _ hoe (Obj.isFreed_of_fields (Obj.data_mapFields hxo.2.choose_spec.choose_spec.choose_spec _))) (hxo.setCtx _)
  have hbe : b ≠ s.heap.objs.size := Nat.ne_of_lt (Heap.lt_size hb)
  rw [Heap.get?_update_other _ _ (Ne.symm hbe)]
  exact Heap.get?_push_of_some _ hb
theorem raiseWords_ctx {e1 : Addr} {oe1 : Obj} {T1 : Value} {msg : String} {Q : α → Shared → Prop} (hh : A.handled = some (.ref e1)) (he1 : s.heap.get? e1 = some oe1) (hx : ExcO oe1 T1 .none)
    (h : ∀ h' tk e oe, (∀ b o, s.heap.get? b = some o → h'.get? b = some o) → s.heap.get? e = none → h'.get? e = some oe → ExcO oe .none (.ref e1) → E (.ref e) { s with heap := h', toks := tk }) :
    wpAny (model prog w) A (raiseErrorWords "IndexError" msg : Sem α) Q E s := by
  unfold raiseErrorWords
  refine wpAny_bind (wpAny_mkText (wpAny_bind ?_))
  unfold newExc newTuple
  refine wpAny_bind (wpAny_newObj_type ?_)
  refine wpAny_bind (m := firstArgMember _ _) (wpAny_of_eq (a := Value.none) (by simp only [firstArgMember, plainExc_IndexError.first]; rfl) ?_)
  rw [plainExc_IndexError.own]
  refine raise_ctx_new hh (Heap.get?_push_of_some _ he1) hx fun h' e oe h1 h2 h3 h4 => h h' _ e oe (fun b o hb => h1 b o (Heap.get?_push_of_some _ hb)) ?_ h3 h4
  cases q : s.heap.get? e with
  | none => rfl
  | some o => rw [Heap.get?_push_of_some _ q] at h2; cases h2
theorem raiseMade_ctx {e1 : Addr} {oe1 : Obj} {T1 : Value} {msg : String} {Q : α → Shared → Prop} (hh : A.handled = some (.ref e1)) (he1 : s.heap.get? e1 = some oe1) (hx : ExcO oe1 T1 .none)
    (h : ∀ h' tk e oe, (∀ b o, s.heap.get? b = some o → h'.get? b = some o) → s.heap.get? e = none → h'.get? e = some oe → ExcO oe .none (.ref e1) → E (.ref e) { s with heap := h', toks := tk }) (hm : (msg : PySem.Str).length ≤ sizeLine := by size_fits) :
    wpAny (model prog w) A (raiseErrorMade "IndexError" msg : Sem α) Q E s := by
  unfold raiseErrorMade
  refine wpAny_bind (wpAny_mkStr (wpAny_bind ?_) hm)
  unfold newExc newTuple
  refine wpAny_bind (wpAny_newObj_type ?_)
  refine wpAny_bind (m := firstArgMember _ _) (wpAny_of_eq (a := Value.none) (by simp only [firstArgMember, plainExc_IndexError.first]; rfl) ?_)
  rw [plainExc_IndexError.own]
  refine raise_ctx_new hh (Heap.get?_push_of_some _ he1) hx fun h' e oe h1 h2 h3 h4 => h h' _ e oe (fun b o hb => h1 b o (Heap.get?_push_of_some _ hb)) ?_ h3 h4
  cases q : s.heap.get? e with
  | none => rfl
  | some o => rw [Heap.get?_push_of_some _ q] at h2; cases h2
theorem getItem_out_ctx {l e1 : Addr} {items : Array Value} {k : Int} {t : Tok} {oe1 : Obj} {T1 : Value} {Q : Value → Shared → Prop} (hh : A.handled = some (.ref e1)) (he1 : s.heap.get? e1 = some oe1) (hx : ExcO oe1 T1 .none) (hl : s.heap.IsList l items)
    (hout : (items.size : Int) ≤ k) (hf : Builtin.List.listFitsIndex k = true)
    (h : ∀ h' tk e oe, (∀ b o, s.heap.get? b = some o → h'.get? b = some o) → s.heap.get? e = none → h'.get? e = some oe → ExcO oe .none (.ref e1) → E (.ref e) { s with heap := h', toks := tk }) :
    wpAny (model prog w) A (getItem (.ref l) (.int k t)) Q E s := by
  obtain ⟨o, ho, hc, ne, hd⟩ := id hl
  unfold getItem
  refine wpAny_holding ?_
  refine wpAny_bind (wpAny_sequenceKey hl.typeIs (by decide) ?_)
  refine wpAny_bind (wpAny_callSpecial?_slot (name := PySem.Str.ofString "__getitem__") hl.typeIs slot_list_getitem (wpAny_call_entry slot_list_getitem hl.typeIs entry_list_getitem ?_ (args_list_getitem _ _)))
  show wpAny _ _ (Builtin.List.listSubscript? (.int k t) >>= _) _ _ s
  refine wpAny_bind (wpAny_listSubscript_int hf ?_)
  cases k with
  | ofNat j =>
    have hn : items[j]? = none := Array.getElem?_eq_none (Int.ofNat_le.mp hout)
    show wpAny _ _ ((seqItemAt l j >>= fun r => pure (r.map (j, ·))) >>= _) _ _ s
    refine wpAny_bind (wpAny_bind (wpAny_seqItemAt ho hd (wpAny_pure ?_)))
    rw [hn]
    first
      | exact wpAny_bind (wpAny_rule (raiseWords_ctx hh he1 hx h))
      | exact wpAny_bind (wpAny_rule (raiseMade_ctx hh he1 hx h))
      | exact wpAny_bind (wpAny_rule (wpAny_bind (raiseWords_ctx hh he1 hx h)))
      | exact wpAny_bind (wpAny_rule (wpAny_bind (raiseMade_ctx hh he1 hx h)))
      | exact wpAny_bind (wpAny_bind (wpAny_rule (raiseWords_ctx hh he1 hx h)))
      | exact wpAny_bind (wpAny_bind (wpAny_rule (raiseMade_ctx hh he1 hx h)))
      | exact wpAny_rule (raiseWords_ctx hh he1 hx h)
      | exact wpAny_rule (raiseMade_ctx hh he1 hx h)
  | negSucc j => exact absurd hout (by have := Int.negSucc_lt_zero j; omega)
end
end S_Ex2
section S_Ex3
noncomputable def OutAt (xs : Array Value) (i : Int) : Prop := xs.size ≤ 100000 ∧ (xs.size : Int) ≤ i ∧ i ≤ 200000
theorem OutAt.fits {xs : Array Value} {i : Int} (H : OutAt xs i) : Builtin.List.listFitsIndex i = true := fitsIndex_both (by have := H.2.1; omega) (by have := H.2.2; omega)
theorem pushed {g h h' : Heap} {L e : Addr} {m : PySem.Str → Option Value} {news : Led} {oe : Obj} (F : Fr g L h m) (N : News g L h news) (k : ∀ b o, h.get? b = some o → h'.get? b = some o) (hn : h.get? e = none) (he : h'.get? e = some oe) :
    Fr g L h' m ∧ News g L h' ((e, oe) :: news) ∧ ∀ p ∈ news, p.1 ≠ e := by
  refine ⟨F.keeps k, fun p hp => ?_, fun p hp q => ?_⟩
  · rcases List.mem_cons.mp hp with rfl | hp
    · refine ⟨he, fun q => ?_, ?_⟩
      · obtain ⟨oL, _, _, e1, _⟩ := F.ns
        rw [← q, hn] at e1; cases e1
      · cases q : g.get? e with
        | none => rfl
        | some o => have := F.keep _ _ q; rw [hn] at this; cases this
    · exact ⟨k _ _ (N p hp).1, (N p hp).2⟩
  · rw [← q, (N p hp).1] at hn; cases hn
section
variable {prog : Program} {w : World} {A : Around} {s : Shared} {g : Heap} {L : Addr} {m : PySem.Str → Option Value} {news : Led} {E : Value → Shared → Prop} {value slice : Expr} {l : Addr} {xs : Array Value} {n : Nat} {i : Int} {u : Tok} {Q : Value → Shared → Prop}
theorem item_out (hh : A.handled = none) (F : Fr g L s.heap m) (N : News g L s.heap news) (hm : (l, W.listOf xs n) ∈ news) (H : OutAt xs i)
    (h : ∀ h' tk e oe, Fr g L h' m → News g L h' ((e, oe) :: news) → (∀ p ∈ news, p.1 ≠ e) → ExcO oe .none .none → E (.ref e) { s with heap := h', toks := tk })
    (hs : subscripted slice false (.ref l) (.int i u) = operate [.ref l, .int i u] (getItem (.ref l) (.int i u)) := by with_unfolding_all rfl) (hg : ∀ r, letTemporaryGo value (.ref l) r = pure () := by intro _; with_unfolding_all rfl) :
    wpAny (model prog w) A (subscriptTail value slice (.ref l) (.int i u)) Q E s := by
  have hl := isList_of N hm
  have h1 := H.2.1
  have h2 := H.2.2
  refine subscriptTail_builtin hl.typeIs slot_list_getitem.lookup (wpAny_getItem_list_out hh hl (.inr h1) (by omega) (by omega) fun h' tk e hx => ?_) hs hg
  obtain ⟨ob, t, e1, e2, e3⟩ := hx.there
  obtain ⟨a1, a2, a3⟩ := pushed F N hx.keeps hx.new e1
  exact h h' tk e ob a1 a2 a3 ⟨e2, t, _, _, e3⟩
theorem item_out_ctx {e1 : Addr} {oe1 : Obj} {T1 : Value} (hh : A.handled = some (.ref e1)) (F : Fr g L s.heap m) (N : News g L s.heap news) (he1 : (e1, oe1) ∈ news) (hx : ExcO oe1 T1 .none) (hm : (l, W.listOf xs n) ∈ news) (H : OutAt xs i)
    (h : ∀ h' tk e oe, Fr g L h' m → News g L h' ((e, oe) :: news) → (∀ p ∈ news, p.1 ≠ e) → ExcO oe .none (.ref e1) → E (.ref e) { s with heap := h', toks := tk })
    (hs : subscripted slice false (.ref l) (.int i u) = operate [.ref l, .int i u] (getItem (.ref l) (.int i u)) := by with_unfolding_all rfl) (hg : ∀ r, letTemporaryGo value (.ref l) r = pure () := by intro _; with_unfolding_all rfl) :
    wpAny (model prog w) A (subscriptTail value slice (.ref l) (.int i u)) Q E s := by
  have hl := isList_of N hm
  refine subscriptTail_builtin hl.typeIs slot_list_getitem.lookup (getItem_out_ctx hh (N _ he1).1 hx hl H.2.1 H.fits fun h' tk e oe k hn he hxe => ?_) hs hg
  obtain ⟨a1, a2, a3⟩ := pushed F N k hn he
  exact h h' tk e oe a1 a2 a3 hxe
end
section
variable {w : World} {A₀ : Around} {s : Shared} {base g : Heap} {outer : List Env} {L e T a : Addr} {m : PySem.Str → Option Value} {news : Led} {oe oT : Obj} {ctx fl : Value} {E : Value → Shared → Prop}
  {p : Program} {loose : List PySem.Str} {mean : ExcName → Option Value} {mg mb : PySem.Str → Option Value} {cn : PySem.Str} {cs : Scope} {ccd : Value} {cl : List (PySem.Str × Addr)} {b₀ : Stmt} {suite : List Stmt} {pos np : Pos} {rest : List ExceptHandler} {Q : Flow → Shared → Prop}
theorem catch_held (B : Below A₀ base outer g) (F : Fr g L s.heap m) (N : News g L s.heap ((e, oe) :: (T, oT) :: news)) (hne : ∀ p ∈ news, p.1 ≠ T) (hTe : T ≠ e) (hx : ExcO oe (.ref T) ctx) (ht : TbO oT fl)
    (X : (K0 w.params).In base) (TT : Top p loose mean mg mb base)
    (k : ∀ h', Fr g L h' m → News g L h' news → wpAny (model P0 w) ((A₀.deeper (envX cn cs L a ccd cl)).mark (some (.ref e))) (execs (b₀ :: suite) (envX cn cs L a ccd cl)) Q (notedBy (model P0 w) ((A₀.deeper (envX cn cs L a ccd cl)).mark (some (.ref e))) (envX cn cs L a ccd cl) (cameBackBy (model P0 w) (A₀.deeper (envX cn cs L a ccd cl)) (envX cn cs L a ccd cl) E)) { s with heap := h' })
    (ex : nsIn (K0 w.params) mainGlobals (PySem.Str.ofString "IndexError") = some none)
    (hk : cs.kind = .function := by rfl) (hkd : (envX cn cs L a ccd cl).kindOf (PySem.Str.ofString "IndexError") = some .globalImplicit := by rfl) :
    wpAny (model P0 w) (A₀.deeper (envX cn cs L a ccd cl)) (setFlight (.ref e) none) (fun _ s₃ => wpAny (model P0 w) (A₀.deeper (envX cn cs L a ccd cl)) (handleBy (.ref e) (envX cn cs L a ccd cl) (.ExceptHandler (some (.Name (PySem.Str.ofString "IndexError") np)) none (b₀ :: suite) pos :: rest)) Q E s₃) E s := by
  refine set_flight F N hne hTe hx ht fun h₁ oT₁ F₁ N₁ ht₁ => ?_
  refine wpAny_handleBy_builtin (X := "IndexError") (T := "IndexError") (b := true) PySem.F.isExc_IndexError PySem.F.notTuple_IndexError (by rw [isSubtype_type]; kernel_rfl) ?_
  refine nameX_B F₁ (X.keeps B.stays) (topRead_of (TT.keeps B.stays)) ex PyProof.Rows.Boot.«IndexError» (by decide) ⟨rfl, ⟨oe, (N₁ _ List.mem_cons_self).1, hx.1⟩, ?_⟩ hk hkd (by decide)
  rw [if_pos rfl]
  refine set_flight F₁ N₁ hne hTe hx ht₁ fun h₂ oT₂ F₂ N₂ ht₂ => ?_
  exact k h₂ F₂ fun q hq => N₂ q (List.mem_cons_of_mem _ (List.mem_cons_of_mem _ hq))
end
end S_Ex3
section S_Ex4
section
variable {A₀ : Around} {base g₀ : Heap} {outer : List Env} {L : Addr} {s : Shared}
inductive XB (A₀ : Around) (base : Heap) (outer : List Env) (g₀ : Heap) (L : Addr) (s : Shared) (m : PySem.Str → Option Value) (led : Led) (s₁ : Shared) : Prop
  | mk (g h : Heap) (tk : _) (c1 : s₁ = { s with heap := h, toks := tk }) (c2 : KtsTurn (frs outer) g₀ g) (c3 : Below A₀ base outer g) (c4 : KtsDicts (frs outer) g) (c5 : Fr g L h m) (c6 : News g L h led) : XB A₀ base outer g₀ L s m led s₁
inductive XNew (A₀ : Around) (base : Heap) (outer : List Env) (g₀ : Heap) (L : Addr) (s : Shared) (c : Value → Prop) (J : (PySem.Str → Option Value) → Led → Prop) (e : Value) (s₁ : Shared) : Prop
  | mk (ex : Addr) (oe : Obj) (ctx : Value) (m : PySem.Str → Option Value) (led : Led) (c1 : e = .ref ex) (c2 : (∀ p ∈ led, p.1 ≠ ex)) (c3 : ExcO oe .none ctx) (c4 : c ctx) (c5 : J m led) (c6 : XB A₀ base outer g₀ L s m ((ex, oe) :: led) s₁) : XNew A₀ base outer g₀ L s c J e s₁
inductive XTr (A₀ : Around) (base : Heap) (outer : List Env) (g₀ : Heap) (L : Addr) (s : Shared) (c : Value → Prop) (fl : Value) (J : (PySem.Str → Option Value) → Led → Prop) (e : Value) (s₁ : Shared) : Prop
  | mk (ex : Addr) (oe : Obj) (ctx : Value) (T : Addr) (oT : Obj) (m : PySem.Str → Option Value) (led : Led) (c1 : e = .ref ex) (c2 : (∀ p ∈ led, p.1 ≠ ex)) (c3 : (∀ p ∈ led, p.1 ≠ T)) (c4 : T ≠ ex) (c5 : ExcO oe (.ref T) ctx) (c6 : c ctx) (c7 : TbO oT fl) (c8 : J m led) (c9 : XB A₀ base outer g₀ L s m ((ex, oe) :: (T, oT) :: led) s₁) : XTr A₀ base outer g₀ L s c fl J e s₁
noncomputable def XP (A₀ : Around) (base : Heap) (outer : List Env) (g₀ : Heap) (L : Addr) (s : Shared) (c : Value → Prop) (J : (PySem.Str → Option Value) → Led → Prop) (e : Value) (s₁ : Shared) : Prop :=
  XNew A₀ base outer g₀ L s c J e s₁ ∨ XTr A₀ base outer g₀ L s c (rawInt L) J e s₁
end
section
variable {M : Model} {A₀ A A' : Around} {base g₀ : Heap} {outer : List Env} {L : Addr} {s s₁ : Shared} {c : Value → Prop} {J : (PySem.Str → Option Value) → Led → Prop} {env : Env} {e fl : Value} {E : Value → Shared → Prop}
theorem x_note {Q : Unit → Shared → Prop} (hA : A.frames = some (env :: outer)) (hf : env.frame = some L) (hke : env.scope.kind = .function) (h : XP A₀ base outer g₀ L s c J e s₁)
    (k : ∀ s₂, XTr A₀ base outer g₀ L s c (rawInt L) J e s₂ → Q () s₂) : wpAny M A (noteFrame e env) Q E s₁ := by
  rcases h with ⟨ex, oe, ctx, m, led, rfl, h1, h2, hc2, h3, g, h, tk, rfl, h4, h5, h6, h7, h8⟩ | ⟨ex, oe, ctx, T, oT, m, led, rfl, h1, h1', hTe, h2, hc2, ht, h3, g, h, tk, rfl, h4, h5, h6, h7, h8⟩
  · refine note_new hA h5 h7 h8 h1 h2 hf hke h6 fun h' g' T oe' oT q1 q2 q3 q4 q5 q6 q7 q8 q9 => k _ ⟨ex, oe', ctx, T, oT, m, led, rfl, h1, fun p hp => Nat.ne_of_lt (q4 p hp), q5, q6, hc2, q7, h3, g', h', tk, rfl, h4.trans q1, q8, q9, q2, q3⟩
  · exact note_again h8 List.mem_cons_self (List.mem_cons_of_mem _ List.mem_cons_self) h2 ht hf (k _ ⟨ex, oe, ctx, T, oT, m, led, rfl, h1, h1', hTe, h2, hc2, ht, h3, g, h, tk, rfl, h4, h5, h6, h7, h8⟩)
theorem x_fly {Q : Unit → Shared → Prop} {fr : Option Addr} (h : XTr A₀ base outer g₀ L s c fl J e s₁) (k : ∀ s₂, XTr A₀ base outer g₀ L s c (fr.elim .none fun f => rawInt f) J e s₂ → Q () s₂) : wpAny M A (setFlight e fr) Q E s₁ := by
  obtain ⟨ex, oe, ctx, T, oT, m, led, rfl, h1, h1', hTe, h2, hc2, ht, h3, g, h, tk, rfl, h4, h5, h6, h7, h8⟩ := h
  refine set_flight h7 h8 h1' hTe h2 ht fun h' oT' q1 q2 q3 => k _ ⟨ex, oe, ctx, T, oT', m, led, rfl, h1, h1', hTe, h2, hc2, q3, h3, g, h', tk, rfl, h4, h5, h6, q1, q2⟩
theorem x_came (hf : env.frame = some L) (h : XTr A₀ base outer g₀ L s c fl J e s₁) : cameBackBy M A env (XP A₀ base outer g₀ L s c J) e s₁ := by
  have h0 := h
  obtain ⟨ex, oe, ctx, T, oT, m, led, rfl, h1, h1', hTe, ⟨hc, a, x4, x5, hd⟩, hc2, ht, h3, g, h, tk, rfl, h4, h5, h6, h7, h8⟩ := h0
  unfold cameBackBy
  refine wpAny_bind (wpAny_field (h8 _ List.mem_cons_self).1 hd (x := .ref T) rfl ?_)
  rw [if_neg (by simp)]
  rw [hf]
  refine x_fly h fun s₂ h₂ => .inr h₂
theorem x_passes (hA : A'.frames = some (env :: outer)) (hf : env.frame = some L) (hke : env.scope.kind = .function) : PassesOwnAt M A' A env (XP A₀ base outer g₀ L s c J) := fun _ _ h =>
  x_note hA hf hke h fun _ h₂ => x_came hf h₂
theorem x_passOn {α : Type} {what : String} {Q : α → Shared → Prop} (hf : env.frame = some L) (h : XTr A₀ base outer g₀ L s c fl J e s₁) : wpAny M A (PySem.passOn what e env : Sem α) Q (XP A₀ base outer g₀ L s c J) s₁ := by
  have h0 := h
  obtain ⟨ex, oe, ctx, T, oT, m, led, rfl, h1, h1', hTe, ⟨hc, a, x4, x5, hd⟩, hc2, ht, h3, g, h, tk, rfl, h4, h5, h6, h7, h8⟩ := h0
  unfold PySem.passOn
  refine wpAny_bind (wpAny_field (h8 _ List.mem_cons_self).1 hd (x := .ref T) rfl ?_)
  rw [if_neg (by simp)]
  rw [hf]
  exact wpAny_bind (x_fly h fun s₂ h₂ => wpAny_throw (.inr h₂))
end
section
variable {w : World} {A₀ : Around} {base g₀ : Heap} {outer : List Env} {L a : Addr} {s s₁ : Shared} {c : Value → Prop} {J : (PySem.Str → Option Value) → Led → Prop} {e : Value} {E : Value → Shared → Prop}
  {p : Program} {loose : List PySem.Str} {mean : ExcName → Option Value} {mg mb : PySem.Str → Option Value} {cn : PySem.Str} {cs : Scope} {ccd : Value} {cl : List (PySem.Str × Addr)} {b₀ : Stmt} {suite : List Stmt} {pos np : Pos} {rest : List ExceptHandler} {Q : Flow → Shared → Prop}
theorem x_catch (h : XP A₀ base outer g₀ L s c J e s₁) (X : (K0 w.params).In base) (TT : Top p loose mean mg mb base)
    (k : ∀ ex g h tk m led, KtsTurn (frs outer) g₀ g → Below A₀ base outer g → KtsDicts (frs outer) g → Fr g L h m → News g L h led → J m led →
      wpAny (model P0 w) ((A₀.deeper (envX cn cs L a ccd cl)).mark (some (.ref ex))) (execs (b₀ :: suite) (envX cn cs L a ccd cl)) Q (notedBy (model P0 w) ((A₀.deeper (envX cn cs L a ccd cl)).mark (some (.ref ex))) (envX cn cs L a ccd cl) (cameBackBy (model P0 w) (A₀.deeper (envX cn cs L a ccd cl)) (envX cn cs L a ccd cl) E)) { s with heap := h, toks := tk })
    (hk : cs.kind = .function) (ex : nsIn (K0 w.params) mainGlobals (PySem.Str.ofString "IndexError") = some none) (hkd : (envX cn cs L a ccd cl).kindOf (PySem.Str.ofString "IndexError") = some .globalImplicit)
    (hfr : A₀.frames = some outer) :
    wpAny (model P0 w) (A₀.deeper (envX cn cs L a ccd cl)) (noteFrame e (envX cn cs L a ccd cl)) (fun _ s₂ => wpAny (model P0 w) (A₀.deeper (envX cn cs L a ccd cl)) (setFlight e none) (fun _ s₃ => wpAny (model P0 w) (A₀.deeper (envX cn cs L a ccd cl)) (handleBy e (envX cn cs L a ccd cl) (.ExceptHandler (some (.Name (PySem.Str.ofString "IndexError") np)) none (b₀ :: suite) pos :: rest)) Q E s₃) E s₂) E s₁ := by
  refine x_note (Around.frames_deeper hfr) rfl hk h fun s₂ h₂ => ?_
  obtain ⟨exa, oe, ctx, T, oT, m, led, rfl, h1, h1', hTe, h2, hc2, ht, h3, g, h, tk, rfl, h4, h5, h6, h7, h8⟩ := h₂
  exact catch_held h5 h7 h8 h1' hTe h2 ht X TT (fun h' q1 q2 => k exa g h' tk m led h4 h5 h6 q1 q2 h3) ex hk hkd
end
section
variable {prog : Program} {w : World} {A₀ A : Around} {base g₀ : Heap} {outer : List Env} {L : Addr} {s : Shared} {c c2 : Value → Prop} {J J2 : (PySem.Str → Option Value) → Led → Prop} {env : Env} {Q : Flow → Shared → Prop} {body : List Stmt} {f₀ : Stmt} {fs : List Stmt} {pos : Pos}
theorem x_finally {s₀ : Shared} (hA : A.frames = some (env :: outer)) (hf : env.frame = some L) (hke : env.scope.kind = .function)
    (hbody : wpAny (model prog w) A (execs body env) (fun f s₁ => f = .next ∧ wpAny (model prog w) A (execs (f₀ :: fs) env) (fun g s' => g = .next ∧ Q .next s') (XP A₀ base outer g₀ L s c2 J2) s₁) (XP A₀ base outer g₀ L s c J) s₀)
    (hfin : ∀ ex s₁, XTr A₀ base outer g₀ L s c .none J (.ref ex) s₁ → wpAny (model prog w) (A.mark (some (.ref ex))) (execs (f₀ :: fs) env) (fun g s₂ => g = .next ∧ XTr A₀ base outer g₀ L s c2 .none J2 (.ref ex) s₂) (XP A₀ base outer g₀ L s c2 J2) s₁) :
    wpAny (model prog w) A (exec (.Try body [] [] (f₀ :: fs) pos) env) Q (XP A₀ base outer g₀ L s c2 J2) s₀ := by
  have fin : ∀ e s₁, XP A₀ base outer g₀ L s c J e s₁ → wpAny (model prog w) A (noteFrame e env) (fun _ s₂ => FinallyRaised prog w A (XP A₀ base outer g₀ L s c2 J2) env (f₀ :: fs) Q e s₂) (FinallyRaised prog w A (XP A₀ base outer g₀ L s c2 J2) env (f₀ :: fs) Q) s₁ := by
    intro e s₁ h
    refine x_note hA hf hke h fun s₂ h₂ => ⟨?_, ?_⟩
    · obtain ⟨ex, _, _, _, _, _, _, rfl, _⟩ := h₂
      exact ref_ne_byPass _
    · refine x_note hA hf hke (.inr h₂) fun s₃ h₃ => ?_
      refine x_fly h₃ fun s₄ h₄ => ?_
      obtain ⟨ex, rfl⟩ : ∃ ex, e = .ref ex := let ⟨ex, _, _, _, _, _, _, h, _, _, _, _, _, _, _, _⟩ := h₄; ⟨ex, h⟩
      refine wpAny_mono (hfin ex s₄ h₄) (fun g s₅ h₅ => ?_) fun e' s₅ h₅ => x_passes (A' := A.mark (some (.ref ex))) hA hf hke e' s₅ h₅
      obtain ⟨rfl, h₅⟩ := h₅
      exact x_passOn hf h₅
  refine wpAny_Try_finally (wpAny_mono hbody (fun f s₁ h₁ => ?_) fin)
  obtain ⟨rfl, h₁⟩ := h₁
  refine wpAny_execs_nil ?_
  exact wpAny_mono h₁ (fun g s' h₂ => by obtain ⟨rfl, h₂⟩ := h₂; exact h₂) fun e' s₅ h₅ => x_passes hA hf hke e' s₅ h₅
end
theorem UpdF.upd {D : Addr} {o : Obj} : ∀ {l : Led} {g : Obj → Led}, UpdF D o l g → ∀ o', Upd D o o' l (g o')
  | _, _, .head a, _ => .head a
  | _, _, .tail a b, o' => .tail a (UpdF.upd b o')
section
variable {prog : Program} {w : World} {A : Around} {E : Value → Shared → Prop} {s : Shared} {h₀ : Heap} {L D b : Addr} {m : PySem.Str → Option Value} {news : Led} {g : Obj → Led} {its its2 : Array Value} {n n2 : Nat}
theorem ext_my {l : List Value} {Q : Value → Shared → Prop} (F : Fr h₀ L s.heap m) (N : News h₀ L s.heap news) (hb : (b, W.listOf its2 n2) ∈ news) (e : its.toList ++ its2.toList = l) (U : UpdF D (W.listOf its n) news g) (hz : its.size ≤ 100000) (hz2 : its2.size ≤ 100000)
    (h : ∀ h' n', Fr h₀ L h' m → News h₀ L h' (g (W.listOf l.toArray n')) → Q .none { s with heap := h' }) : wpAny (model prog w) A (call (.builtin "list.extend") [.ref D, .ref b]) Q E s := by
  have hd : ¬(!its.isEmpty && Builtin.List.listTooLong (its.size + its2.size)) = true := by
    have q := le_sizeLine (n := its.size + its2.size) (by omega)
    unfold Builtin.List.listTooLong
    simp
    omega
  have q1 : its.toList.length ≤ sizeLine := le_sizeLine (by simpa using Nat.le_trans hz (by omega))
  have q2 : its.size + its2.size ≤ sizeLine + 1 := Nat.le_succ_of_le (le_sizeLine (by omega))
  by_cases e0 : its2.toList = []
  · rw [e0, List.append_nil] at e
    subst e
    exact kxn_extend F N hb e0 (UpdF.upd U _) hd q1 q2 fun h' F' N' => h h' n F' N'
  · exact kl_extend F N hb e (fun q => e0 (List.length_eq_zero_iff.mp q)) (UpdF.upd U _) hd q1 q2 fun h' F' N' => h h' (n + 1) F' N'
end
end S_Ex4
section S_FSl
theorem cells_none {cm : PySem.Str → Option Value} {cells : Led} (x : CellsAre cm [] cells) : cells = [] := by cases x; rfl
local macro_rules | `(tactic| walk_at $s:str) => if s.getString ∈ ["exec While", "exec Try", "exec Try cons nil"] then `(tactic| (refine Stop.mk ?_)) else Lean.Macro.throwUnsupported
local macro_rules | `(tactic| walk_at "tX") => `(tactic| (intro h' n' F' N'; (try dsimp only at N')))
local macro_rules | `(tactic| walk_at "i8") => `(tactic| (intro h' tk' e' oe' F' N' ne' hx'))
local macro_rules | `(tactic| walk_at "in Sl") => `(tactic| skip)
example : True := by
  k_with "call builtin:list.append" => (walk_at "in Sl"; ((try dsimp only [List.nil_append, List.cons_append]); refine' append_K ?k1 ?k2 ?k3 ?_ ?z; (case k1 => k_asm); (case k2 => k_asm); (case k3 => k_upd); (case z => exact le_sizeLine (by omega)); (walk_at "i3"; (try k_sweep))))
  k_with "subscriptTail" => (walk_at "in Sl"; ((with_reducible show wpAny _ _ (subscriptTail _ _ (Value.ref _) (Value.int _ _)) _ _ _); refine' item_out ?k1 ?k2 ?k3 ?k4 ?k5 ?_; (case k1 => rfl); (case k2 => k_asm); (case k3 => k_asm); (case k4 => k_mem); (case k5 => assumption); walk_at "i8"))
  k_with "call builtin:list.extend" => (walk_at "in Sl"; ((try dsimp only [List.nil_append, List.cons_append]); refine' ext_my ?k1 ?k2 ?k3 ?k4 ?k5 ?k6 ?k7 ?_; (case k1 => k_asm); (case k2 => k_asm); (case k3 => k_mem); (case k4 => rfl); (case k5 => k_updF); (case k6 => assumption); (case k7 => assumption); walk_at "tX"))
  k_with "WhlRest" => (walk_at "in Sl"; (refine' whl_turn ?hE ?_; (case hE => exact x_passes rfl rfl rfl)))
  trivial
noncomputable def mgL : List (List Nat) → List (List Nat) → List (List Nat) × List (List Nat)
  | [], ys => ([], ys)
  | x :: xs, [] => (x :: xs, [])
  | x :: xs, y :: ys => if x < y then (x :: (mgL xs (y :: ys)).1, (mgL xs (y :: ys)).2) else if y < x then ((mgL (x :: xs) ys).1, y :: (mgL (x :: xs) ys).2) else mgL xs ys
theorem mgL_nil (xs : List (List Nat)) : mgL xs [] = (xs, []) := by cases xs <;> simp [mgL]
example : True := by
  k_with "subscriptTail" => (walk_at "in Sl"; ((with_reducible show wpAny _ (Around.mark _ (some _)) (subscriptTail _ _ (Value.ref _) (Value.int _ _)) _ _ _); refine' item_out_ctx rfl ?k2 ?k3 ?k6 ?k7 ?k4 ?k5 ?_; (case k2 => k_asm); (case k3 => k_asm); (case k6 => exact List.mem_cons_self); (case k7 => assumption); (case k4 => k_mem); (case k5 => assumption); walk_at "i8"))
  trivial
inductive SJ (xs ys : List (List Nat)) (lx ly lm lu : Addr) (news : Led) (m2 : PySem.Str → Option Value) (led : Led) : Prop
  | mk (i j : Nat) (mi us : List (List Nat)) (mv uv : List Value) (cm cu : Nat) (c1 : m2 (PySem.Str.ofString "expected") = some (.ref lx)) (c2 : m2 (PySem.Str.ofString "actual") = some (.ref ly)) (c3 : m2 (PySem.Str.ofString "missing") = some (.ref lm)) (c4 : m2 (PySem.Str.ofString "unexpected") = some (.ref lu)) (c5 : HasI m2 (PySem.Str.ofString "i") (i : Nat)) (c6 : HasI m2 (PySem.Str.ofString "j") (j : Nat)) (c7 : F2 TxtV mi mv) (c8 : F2 TxtV us uv) (c9 : i ≤ xs.length) (c10 : j ≤ ys.length) (c11 : mi.length ≤ i) (c12 : us.length ≤ j) (c13 : mi ++ xs.drop i = (mgL xs ys).1) (c14 : us ++ ys.drop j = (mgL xs ys).2) (c15 : led = (lu, W.listOf uv.toArray cu) :: (lm, W.listOf mv.toArray cm) :: news) : SJ xs ys lx ly lm lu news m2 led
inductive SW (xs ys : List (List Nat)) (lm lu : Addr) (news : Led) (kk : Nat) (m' : PySem.Str → Option Value) (n' : Led) : Prop
  | mk (i j : Nat) (mi us : List (List Nat)) (mv uv : List Value) (cm cu : Nat) (c1 : kk = (xs.length - i) + (ys.length - j) + 1) (c2 : i ≤ xs.length) (c3 : j ≤ ys.length) (c4 : HasI m' (PySem.Str.ofString "i") (i : Nat)) (c5 : HasI m' (PySem.Str.ofString "j") (j : Nat)) (c6 : F2 TxtV mi mv) (c7 : F2 TxtV us uv) (c8 : mi.length ≤ i) (c9 : us.length ≤ j) (c10 : mi ++ (mgL (xs.drop i) (ys.drop j)).1 = (mgL xs ys).1) (c11 : us ++ (mgL (xs.drop i) (ys.drop j)).2 = (mgL xs ys).2) (c12 : n' = (lu, W.listOf uv.toArray cu) :: (lm, W.listOf mv.toArray cm) :: news) : SW xs ys lm lu news kk m' n'
inductive SldP (xs ys : List (List Nat)) (news : Led) (r : Value) (n' : Led) : Prop
  | mk (t la lb : Addr) (ca cb : Nat) (va vb : List Value) (c1 : r = .ref t) (c2 : F2 TxtV (mgL xs ys).1 va) (c3 : F2 TxtV (mgL xs ys).2 vb) (c4 : n' = (t, { cls := .type "tuple", data := .seq #[.ref la, .ref lb] }) :: (lb, W.listOf vb.toArray cb) :: (la, W.listOf va.toArray ca) :: news) (c5 : (∀ p ∈ news, p.1 < la)) (c6 : la < lb) (c7 : lb < t) : SldP xs ys news r n'
namespace Ksld
abbrev Par : Type := (World) × (List (List Nat)) × (List (List Nat)) × (List Value) × (List Value) × (Addr) × (Addr) × (Nat) × (Nat) × (Led) × (Program) × (List PySem.Str) × (ExcName → Option Value) × (PySem.Str → Option Value) × (PySem.Str → Option Value) × (Nat) × (Nat) × (Option (List Code)) × (PySem.Str) × (Scope) × (Addr) × (Value) × (List (PySem.Str × Addr)) × (List Env) × (Around) × (Heap) × (Heap) × (Addr) × (PySem.Str → Option Value) × (Shared) × (Value → Shared → Prop) × (Value → Shared → Prop)
theorem ne : Nonempty Par := ⟨by refine ⟨?_, ?_, ?_, ?_, ?_, ?_, ?_, ?_, ?_, ?_, ?_, ?_, ?_, ?_, ?_, ?_, ?_, ?_, ?_, ?_, ?_, ?_, ?_, ?_, ?_, ?_, ?_, ?_, ?_, ?_, ?_, ?_⟩ <;> first | exact W0 | exact default | exact {} | exact FD0⟩
noncomputable def Goal : Par → Prop := fun e0 => (fun (w : World) (xs : List (List Nat)) (ys : List (List Nat)) (xv : List Value) (yv : List Value) (lx : Addr) (ly : Addr) (cx : Nat) (cy : Nat) (news : Led) (p : Program) (loose : List PySem.Str) (mean : ExcName → Option Value) (mg : PySem.Str → Option Value) (mb : PySem.Str → Option Value) (dp : Nat) (un : Nat) (gd : Option (List Code)) (cn : PySem.Str) (cs : Scope) (a : Addr) (ccd : Value) (cl : List (PySem.Str × Addr)) (outer : List Env) (A₀ : Around) (base : Heap) (h₀ : Heap) (L : Addr) (m : PySem.Str → Option Value) (s : Shared) (Q : Value → Shared → Prop) (E : Value → Shared → Prop) => (hx : (lx, W.listOf xv.toArray cx) ∈ news) → (hy : (ly, W.listOf yv.toArray cy) ∈ news) → (hxv : F2 TxtV xs xv) → (hyv : F2 TxtV ys yv) → (hxn : ∀ i a b, xs[i]? = some a → xs[i + 1]? = some b → a ≠ b) → (hyn : ∀ i a b, ys[i]? = some a → ys[i + 1]? = some b → a ≠ b) → (hxl : xs.length ≤ 1000) → (hyl : ys.length ≤ 1000) → FnSG w 870 95 [.ref lx, .ref ly] news (SldP xs ys news) p loose mean mg mb dp un gd cn cs a ccd cl outer A₀ base h₀ L m s Q E) e0.1 e0.2.1 e0.2.2.1 e0.2.2.2.1 e0.2.2.2.2.1 e0.2.2.2.2.2.1 e0.2.2.2.2.2.2.1 e0.2.2.2.2.2.2.2.1 e0.2.2.2.2.2.2.2.2.1 e0.2.2.2.2.2.2.2.2.2.1 e0.2.2.2.2.2.2.2.2.2.2.1 e0.2.2.2.2.2.2.2.2.2.2.2.1 e0.2.2.2.2.2.2.2.2.2.2.2.2.1 e0.2.2.2.2.2.2.2.2.2.2.2.2.2.1 e0.2.2.2.2.2.2.2.2.2.2.2.2.2.2.1 e0.2.2.2.2.2.2.2.2.2.2.2.2.2.2.2.1 e0.2.2.2.2.2.2.2.2.2.2.2.2.2.2.2.2.1 e0.2.2.2.2.2.2.2.2.2.2.2.2.2.2.2.2.2.1 e0.2.2.2.2.2.2.2.2.2.2.2.2.2.2.2.2.2.2.1 e0.2.2.2.2.2.2.2.2.2.2.2.2.2.2.2.2.2.2.2.1 e0.2.2.2.2.2.2.2.2.2.2.2.2.2.2.2.2.2.2.2.2.1 e0.2.2.2.2.2.2.2.2.2.2.2.2.2.2.2.2.2.2.2.2.2.1 e0.2.2.2.2.2.2.2.2.2.2.2.2.2.2.2.2.2.2.2.2.2.2.1 e0.2.2.2.2.2.2.2.2.2.2.2.2.2.2.2.2.2.2.2.2.2.2.2.1 e0.2.2.2.2.2.2.2.2.2.2.2.2.2.2.2.2.2.2.2.2.2.2.2.2.1 e0.2.2.2.2.2.2.2.2.2.2.2.2.2.2.2.2.2.2.2.2.2.2.2.2.2.1 e0.2.2.2.2.2.2.2.2.2.2.2.2.2.2.2.2.2.2.2.2.2.2.2.2.2.2.1 e0.2.2.2.2.2.2.2.2.2.2.2.2.2.2.2.2.2.2.2.2.2.2.2.2.2.2.2.1 e0.2.2.2.2.2.2.2.2.2.2.2.2.2.2.2.2.2.2.2.2.2.2.2.2.2.2.2.2.1 e0.2.2.2.2.2.2.2.2.2.2.2.2.2.2.2.2.2.2.2.2.2.2.2.2.2.2.2.2.2.1 e0.2.2.2.2.2.2.2.2.2.2.2.2.2.2.2.2.2.2.2.2.2.2.2.2.2.2.2.2.2.2.1 e0.2.2.2.2.2.2.2.2.2.2.2.2.2.2.2.2.2.2.2.2.2.2.2.2.2.2.2.2.2.2.2
noncomputable def q : Par := pick ne Goal
@[irreducible] noncomputable def w : World := q.1
@[irreducible] noncomputable def xs : List (List Nat) := q.2.1
@[irreducible] noncomputable def ys : List (List Nat) := q.2.2.1
@[irreducible] noncomputable def xv : List Value := q.2.2.2.1
@[irreducible] noncomputable def yv : List Value := q.2.2.2.2.1
@[irreducible] noncomputable def lx : Addr := q.2.2.2.2.2.1
@[irreducible] noncomputable def ly : Addr := q.2.2.2.2.2.2.1
@[irreducible] noncomputable def cx : Nat := q.2.2.2.2.2.2.2.1
@[irreducible] noncomputable def cy : Nat := q.2.2.2.2.2.2.2.2.1
@[irreducible] noncomputable def news : Led := q.2.2.2.2.2.2.2.2.2.1
@[irreducible] noncomputable def p : Program := q.2.2.2.2.2.2.2.2.2.2.1
@[irreducible] noncomputable def loose : List PySem.Str := q.2.2.2.2.2.2.2.2.2.2.2.1
@[irreducible] noncomputable def mean : ExcName → Option Value := q.2.2.2.2.2.2.2.2.2.2.2.2.1
@[irreducible] noncomputable def mg : PySem.Str → Option Value := q.2.2.2.2.2.2.2.2.2.2.2.2.2.1
@[irreducible] noncomputable def mb : PySem.Str → Option Value := q.2.2.2.2.2.2.2.2.2.2.2.2.2.2.1
@[irreducible] noncomputable def dp : Nat := q.2.2.2.2.2.2.2.2.2.2.2.2.2.2.2.1
@[irreducible] noncomputable def un : Nat := q.2.2.2.2.2.2.2.2.2.2.2.2.2.2.2.2.1
@[irreducible] noncomputable def gd : Option (List Code) := q.2.2.2.2.2.2.2.2.2.2.2.2.2.2.2.2.2.1
@[irreducible] noncomputable def cn : PySem.Str := q.2.2.2.2.2.2.2.2.2.2.2.2.2.2.2.2.2.2.1
@[irreducible] noncomputable def cs : Scope := q.2.2.2.2.2.2.2.2.2.2.2.2.2.2.2.2.2.2.2.1
@[irreducible] noncomputable def a : Addr := q.2.2.2.2.2.2.2.2.2.2.2.2.2.2.2.2.2.2.2.2.1
@[irreducible] noncomputable def ccd : Value := q.2.2.2.2.2.2.2.2.2.2.2.2.2.2.2.2.2.2.2.2.2.1
@[irreducible] noncomputable def cl : List (PySem.Str × Addr) := q.2.2.2.2.2.2.2.2.2.2.2.2.2.2.2.2.2.2.2.2.2.2.1
@[irreducible] noncomputable def outer : List Env := q.2.2.2.2.2.2.2.2.2.2.2.2.2.2.2.2.2.2.2.2.2.2.2.1
@[irreducible] noncomputable def A₀ : Around := q.2.2.2.2.2.2.2.2.2.2.2.2.2.2.2.2.2.2.2.2.2.2.2.2.1
@[irreducible] noncomputable def base : Heap := q.2.2.2.2.2.2.2.2.2.2.2.2.2.2.2.2.2.2.2.2.2.2.2.2.2.1
@[irreducible] noncomputable def h₀ : Heap := q.2.2.2.2.2.2.2.2.2.2.2.2.2.2.2.2.2.2.2.2.2.2.2.2.2.2.1
@[irreducible] noncomputable def L : Addr := q.2.2.2.2.2.2.2.2.2.2.2.2.2.2.2.2.2.2.2.2.2.2.2.2.2.2.2.1
@[irreducible] noncomputable def m : PySem.Str → Option Value := q.2.2.2.2.2.2.2.2.2.2.2.2.2.2.2.2.2.2.2.2.2.2.2.2.2.2.2.2.1
@[irreducible] noncomputable def s : Shared := q.2.2.2.2.2.2.2.2.2.2.2.2.2.2.2.2.2.2.2.2.2.2.2.2.2.2.2.2.2.1
@[irreducible] noncomputable def Q : Value → Shared → Prop := q.2.2.2.2.2.2.2.2.2.2.2.2.2.2.2.2.2.2.2.2.2.2.2.2.2.2.2.2.2.2.1
@[irreducible] noncomputable def E : Value → Shared → Prop := q.2.2.2.2.2.2.2.2.2.2.2.2.2.2.2.2.2.2.2.2.2.2.2.2.2.2.2.2.2.2.2
noncomputable def BH (g₉ : Heap) (l₉ : Addr) (h₉ : Heap) (t₉ : Nat) : Prop := BodyS w 95 94 15 [(PySem.Str.ofString "expected", .ref lx), (PySem.Str.ofString "actual", .ref ly)] news dp un gd cn cs a ccd cl outer A₀ base h₀ L m s Q E (rfl : stm 15 = _) g₉ l₉ h₉ t₉
noncomputable def ev : EV := pick evne (fun e => BH e.g e.l e.h e.t)
@[irreducible] noncomputable def g' : Heap := ev.g
@[irreducible] noncomputable def L' : Addr := ev.l
@[irreducible] noncomputable def h' : Heap := ev.h
@[irreducible] noncomputable def tk' : Nat := ev.t
theorem body (hx : (lx, W.listOf xv.toArray cx) ∈ news) (hy : (ly, W.listOf yv.toArray cy) ∈ news) (hxv : F2 TxtV xs xv) (hyv : F2 TxtV ys yv) (hxn : ∀ i a b, xs[i]? = some a → xs[i + 1]? = some b → a ≠ b) (hyn : ∀ i a b, ys[i]? = some a → ys[i + 1]? = some b → a ≠ b) (hxl : xs.length ≤ 1000) (hyl : ys.length ≤ 1000) (B : Below A₀ base outer h₀) (X : (K0 w.params).In base) (T : Top p loose mean mg mb base) (C1 : CodeHd base 61 57) (C2 : CodeHd base 170 168) (D : KtsDicts (frs outer) h₀) (hk : cs.kind = .function) (hd : dp < 870) (hu : un < 8 * 870) (hret : ∀ h r news' h' tk', KtsTurn (frs outer) h₀ h → Below A₀ base outer h → KtsDicts (frs outer) h → Fr h L h' m → News h L h' news' → ((SldP xs ys news)) r news' → Q r { s with heap := h', toks := tk' }) : BH g' L' h' tk' := by
  have yc : Clo := .mk
  w_on
  intro cells' F' N' Y' B' lt' D'
  have X' := X.keeps B'.stays
  have T' := T.keeps B'.stays
  have C1' := C1.keeps B'.stays
  have C2' := C2.keeps B'.stays
  obtain rfl := cells_none Y'
  clear Y'
  rw [List.nil_append] at N'
  (try dsimp only)
  (try k_fold)
  k_steps
  rename_i lm _ l1 _ lu _ l2 _ FW NW
  refine Stop.go (while_k [PySem.Str.ofString "i", PySem.Str.ofString "j", PySem.Str.ofString "e", PySem.Str.ofString "a"] (SW xs ys lm lu news) (xs.length + ys.length + 1) ((lu, W.listOf #[] 0) :: (lm, W.listOf #[] 0) :: news) FW NW Sub.refl
    ⟨0, 0, [], [], [], [], 0, 0, by omega, Nat.zero_le _, Nat.zero_le _, .of rfl rfl, .of rfl rfl, .nil, .nil, Nat.le_refl _, Nat.le_refl _, rfl, rfl, rfl⟩ (by k_extra "own") ?_)
  refine cl6 ?_; generalize cl6_1 _ _ = kk, cl6_2 _ _ = m1, cl6_3 _ _ = n1, cl6_4 _ _ = h1, cl6_5 _ _ = tk1, cl6_6 _ _ = Q3
  intro zz1
  obtain ⟨i, j, mi, us, mv, uv, cm, cu, e1, hi, hj, zz2, zz3, hmv, huv, hml, hul, r1, r2, zz4⟩ := zz1
  revert i j mi us mv uv cm cu e1 hi hj zz2 zz3 hmv huv hml hul r1 r2 zz4
  intro i j mi us mv uv cm cu e1 hi hj zz2 zz3 hmv huv hml hul r1 r2 zz4
  subst zz4
  obtain ⟨ti, e2⟩ := zz2
  revert ti e2
  intro ti e2
  obtain ⟨tj, e3⟩ := zz3
  revert tj e3
  intro tj e3
  intro F1 N1 hQ3
  clear FW NW
  dsimp only [mapK] at F1
  rw [e2, e3] at F1
  dsimp only
  k_steps
  refine ⟨fun _ => ?_, (fun h => nomatch h)⟩
  k_steps
  have hifr : (ktrTop dp un gd cn cs L a ccd cl outer).frames = some (envX cn cs L a ccd cl :: outer) := rfl
  refine Stop.go (wpAny_Try_except (wpAny_mono (E := XP (ktrTop dp un gd cn cs L a ccd cl outer) base (envX cn cs L a ccd cl :: outer) g' L' { s with heap := h1, toks := tk1 } (fun _ => True) (SJ xs ys lx ly lm lu news)) ?body (fun _ _ h => h) (fun e s₁ h => x_catch h X T ?hand rfl ?ex rfl hifr)))
  case ex => k_is
  case hand =>
    clear yc
    intro ex g2 h2 tk2 m2 led TT B2 D2 F2 N2
    intro zz5
    obtain ⟨i, j, mi, us, mv, uv, cm, cu, a1, a2, a3, a4, zz6, zz7, a7, a8, a9, a10, a11, a12, a13, a14, zz8⟩ := zz5
    revert i j mi us mv uv cm cu a1 a2 a3 a4 zz6 zz7 a7 a8 a9 a10 a11 a12 a13 a14 zz8
    intro i j mi us mv uv cm cu a1 a2 a3 a4 zz6 zz7 a7 a8 a9 a10 a11 a12 a13 a14 zz8
    subst zz8
    obtain ⟨ti, a5⟩ := zz6
    revert ti a5
    intro ti a5
    obtain ⟨tj, a6⟩ := zz7
    revert tj a6
    intro tj a6
    have F3 := fr_to F2 (mapK_eq (KeptK.refl [PySem.Str.ofString "expected", PySem.Str.ofString "actual", PySem.Str.ofString "missing", PySem.Str.ofString "unexpected", PySem.Str.ofString "i", PySem.Str.ofString "j"] m2))
    clear F2
    dsimp only [mapK] at F3
    rw [a1, a2, a3, a4, a5, a6] at F3
    have X2 := X.keeps B2.stays
    have T2 := T.keeps B2.stays
    clear F1 N1 X' T' B'
    have hs1 : (slicePick xv.toArray (some ((i : Nat) : Int)) none none).toList = xv.drop i := by rw [slicePick_from']
    have hs2 : (slicePick yv.toArray (some ((j : Nat) : Int)) none none).toList = yv.drop j := by rw [slicePick_from']
    have hz1 : xv.toArray.size ≤ 100000 := by rw [List.size_toArray, ← hxv.length]; omega
    have hz2 : yv.toArray.size ≤ 100000 := by rw [List.size_toArray, ← hyv.length]; omega
    have hz3 : mv.toArray.size ≤ 100000 := by rw [List.size_toArray, ← a7.length]; omega
    have hz4 : uv.toArray.size ≤ 100000 := by rw [List.size_toArray, ← a8.length]; omega
    have hz5 : (xv.drop i).toArray.size ≤ 100000 := by rw [List.size_toArray, List.length_drop, ← hxv.length]; omega
    have hz6 : (yv.drop j).toArray.size ≤ 100000 := by rw [List.size_toArray, List.length_drop, ← hyv.length]; omega
    k_steps
    show AgainW _ _ _ _ _ _ .brk _
    refine AgainW.brk ?_
    dsimp only
    k_steps
    rename News _ _ _ _ => NZ
    rename_i FZ _
    refine ⟨g2, L', _, _, TT, FZ, NZ, ?_⟩
    intro h9 q1 q2 q3 q4 q5
    refine hret h9 _ _ _ _ q1 q4 q5 q2 (fun p hp => q3 p (Sub.cons List.mem_cons_self (Sub.skip (Sub.skip (Sub.skip Sub.refl))) p hp)) ⟨_, lm, lu, _, _, mv ++ xv.drop i, uv ++ yv.drop j, rfl, ?v1, ?v2, rfl, l1, l2.1, ?v5⟩
    case v1 => exact a13 ▸ a7.append (hxv.drop i)
    case v2 => exact a14 ▸ a8.append (hyv.drop j)
    case v5 => (show @LT.lt Nat _ lu _; omega)
  case body =>
    clear yc
    have hz1 : xv.toArray.size ≤ 100000 := by rw [List.size_toArray, ← hxv.length]; omega
    have hz2 : yv.toArray.size ≤ 100000 := by rw [List.size_toArray, ← hyv.length]; omega
    have hz3 : mv.toArray.size ≤ 100000 := by rw [List.size_toArray, ← hmv.length]; omega
    have hz4 : uv.toArray.size ≤ 100000 := by rw [List.size_toArray, ← huv.length]; omega
    have hgx : ∀ i x, xs[i]? = some x → ∃ t, ItemAt xv.toArray ((i : Nat) : Int) (.str (tx x) t) := by
      intro i x h
      obtain ⟨_, h1, t, rfl⟩ := hxv.get i h
      exact ⟨t, hz1, .inl ⟨by omega, by simpa using h1⟩⟩
    have hgy : ∀ i x, ys[i]? = some x → ∃ t, ItemAt yv.toArray ((i : Nat) : Int) (.str (tx x) t) := by
      intro i x h
      obtain ⟨_, h1, t, rfl⟩ := hyv.get i h
      exact ⟨t, hz2, .inl ⟨by omega, by simpa using h1⟩⟩
    rcases Nat.lt_or_ge i xs.length with hi' | hi'
    · obtain ⟨x, hxi⟩ : ∃ x, xs[i]? = some x := ⟨_, List.getElem?_eq_getElem hi'⟩
      revert x hxi
      intro x hxi
      obtain ⟨tx1, hIx⟩ := hgx i x hxi
      revert tx1 hIx
      intro tx1 hIx
      rcases Nat.lt_or_ge j ys.length with hj' | hj'
      · obtain ⟨y, hyj⟩ : ∃ y, ys[j]? = some y := ⟨_, List.getElem?_eq_getElem hj'⟩
        revert y hyj
        intro y hyj
        obtain ⟨ty1, hIy⟩ := hgy j y hyj
        revert ty1 hIy
        intro ty1 hIy
        have htx : ∀ l : List Nat, (tx l).cps.toList = l := fun l => rfl
        have hdx : xs.drop i = x :: xs.drop (i + 1) := (List.drop_eq_getElem_cons hi').trans (by rw [List.getElem?_eq_getElem hi'] at hxi; cases hxi; rfl)
        have hdy : ys.drop j = y :: ys.drop (j + 1) := (List.drop_eq_getElem_cons hj').trans (by rw [List.getElem?_eq_getElem hj'] at hyj; cases hyj; rfl)
        rw [hdx, hdy, mgL] at r1 r2
        k_steps
        · rename (tx x).cps.toList < (tx y).cps.toList => hlt
          have hlt : x < y := hlt
          rw [if_pos hlt, ← hdy] at r1 r2
          have r1 : (mi ++ [x]) ++ (mgL (xs.drop (i + 1)) (ys.drop j)).1 = (mgL xs ys).1 := by rw [← r1]; simp
          rcases Nat.lt_or_ge (i + 1) xs.length with h2 | h2
          · obtain ⟨x', hx'⟩ : ∃ x', xs[i + 1]? = some x' := ⟨_, List.getElem?_eq_getElem h2⟩
            revert x' hx'
            intro x' hx'
            obtain ⟨t', hIx'⟩ := hgx (i + 1) x' hx'
            revert t' hIx'
            intro t' hIx'
            have hIx2 : ItemAt xv.toArray (((i : Nat) : Int) + 1) (.str (tx x') t') := hIx'
            have hne2 : (tx x' == tx x) = false := tx_ne (hxn i x x' hxi hx').symm
            refine Stop.go (whl_start 1 ?_)
            k_steps
            rename News _ _ _ _ => NL
            rw [List.push_toArray] at NL
            exact AgainW.next (by assumption) NL (k' := (xs.length - (i + 1)) + (ys.length - j) + 1) (by omega) (fun _ h => h) ⟨by k_extra "kept", i + 1, j, mi ++ [x], us, _, uv, _, cu, rfl, Nat.le_of_lt h2, hj, .of rfl (by omega), .of rfl rfl, hmv.snoc ⟨_, rfl⟩, huv, by simp; omega, hul, r1, r2, rfl⟩
          · have hOx : OutAt xv.toArray (((i : Nat) : Int) + 1) := ⟨hz1, by rw [List.size_toArray, ← hxv.length]; omega, by omega⟩
            have hil : i + 1 = xs.length := by omega
            rw [hil, List.drop_length, mgL] at r1 r2
            refine Stop.go (whl_start 1 ?_)
            k_steps
            rename News _ _ _ _ => NL
            (try rw [List.push_toArray] at NL)
            exact .inl ⟨_, _, _, _, _, rfl, (by first | assumption | (rw [← List.push_toArray]; assumption)), (by assumption), trivial, ⟨i + 1, j, mi ++ [x], us, _, uv, _, _, rfl, rfl, rfl, rfl, .of rfl rfl, .of rfl rfl, hmv.snoc ⟨_, rfl⟩, huv, by omega, hj, by simp; omega, hul, by rw [hil, List.drop_length]; exact r1, r2, rfl⟩, g', _, _, rfl, KtsTurn.refl, B', D', (by assumption), NL⟩
        · rename (tx y).cps.toList < (tx x).cps.toList => hgt
          rename ¬ (tx x).cps.toList < (tx y).cps.toList => hlt
          have hlt : ¬ x < y := hlt
          have hgt : y < x := hgt
          rw [if_neg hlt, if_pos hgt, ← hdx] at r1 r2
          have r2 : (us ++ [y]) ++ (mgL (xs.drop i) (ys.drop (j + 1))).2 = (mgL xs ys).2 := by rw [← r2]; simp
          rcases Nat.lt_or_ge (j + 1) ys.length with h2 | h2
          · obtain ⟨y', hy'⟩ : ∃ y', ys[j + 1]? = some y' := ⟨_, List.getElem?_eq_getElem h2⟩
            revert y' hy'
            intro y' hy'
            obtain ⟨t', hIy'⟩ := hgy (j + 1) y' hy'
            revert t' hIy'
            intro t' hIy'
            have hIy2 : ItemAt yv.toArray (((j : Nat) : Int) + 1) (.str (tx y') t') := hIy'
            have hne2 : (tx y' == tx y) = false := tx_ne (hyn j y y' hyj hy').symm
            refine Stop.go (whl_start 1 ?_)
            k_steps
            rename News _ _ _ _ => NL
            rw [List.push_toArray] at NL
            exact AgainW.next (by assumption) NL (k' := (xs.length - i) + (ys.length - (j + 1)) + 1) (by omega) (fun _ h => h) ⟨by k_extra "kept", i, j + 1, mi, us ++ [y], mv, _, cm, _, rfl, hi, Nat.le_of_lt h2, .of rfl rfl, .of rfl (by omega), hmv, huv.snoc ⟨_, rfl⟩, hml, by simp; omega, r1, r2, rfl⟩
          · have hOy : OutAt yv.toArray (((j : Nat) : Int) + 1) := ⟨hz2, by rw [List.size_toArray, ← hyv.length]; omega, by omega⟩
            have hjl : j + 1 = ys.length := by omega
            rw [hjl, List.drop_length, mgL_nil] at r1 r2
            refine Stop.go (whl_start 1 ?_)
            k_steps
            rename News _ _ _ _ => NL
            (try rw [List.push_toArray] at NL)
            exact .inl ⟨_, _, _, _, _, rfl, (by first | assumption | (rw [← List.push_toArray]; assumption)), (by assumption), trivial, ⟨i, j + 1, mi, us ++ [y], mv, _, _, _, rfl, rfl, rfl, rfl, .of rfl rfl, .of rfl rfl, hmv, huv.snoc ⟨_, rfl⟩, hi, by omega, hml, by simp; omega, r1, by rw [hjl, List.drop_length]; exact r2, rfl⟩, g', _, _, rfl, KtsTurn.refl, B', D', (by assumption), NL⟩
        · rename ¬ (tx y).cps.toList < (tx x).cps.toList => hgt
          rename ¬ (tx x).cps.toList < (tx y).cps.toList => hlt
          have hxy : x = y := List.le_antisymm (List.not_lt.mp hgt) (List.not_lt.mp hlt)
          have hlt : ¬ x < y := hlt
          have hgt : ¬ y < x := hgt
          rw [if_neg hlt, if_neg hgt] at r1 r2
          refine Stop.go (x_finally (c := fun x => x = .none) (J := fun m2 led => m2 (PySem.Str.ofString "expected") = some (.ref lx) ∧ m2 (PySem.Str.ofString "actual") = some (.ref ly) ∧ m2 (PySem.Str.ofString "missing") = some (.ref lm) ∧ m2 (PySem.Str.ofString "unexpected") = some (.ref lu) ∧
            HasI m2 (PySem.Str.ofString "i") ((i + 1 : Nat) : Int) ∧ HasI m2 (PySem.Str.ofString "j") (j : Nat) ∧ m2 (PySem.Str.ofString "a") = some (.str (tx y) ty1) ∧ i + 1 = xs.length ∧ led = (lu, W.listOf uv.toArray cu) :: (lm, W.listOf mv.toArray cm) :: news) rfl rfl rfl ?body2 ?fin2)
          case body2 =>
            rcases Nat.lt_or_ge (i + 1) xs.length with h2 | h2
            · obtain ⟨x', hx'⟩ : ∃ x', xs[i + 1]? = some x' := ⟨_, List.getElem?_eq_getElem h2⟩
              revert x' hx'
              intro x' hx'
              obtain ⟨t', hIx'⟩ := hgx (i + 1) x' hx'
              revert t' hIx'
              intro t' hIx'
              have hIx2 : ItemAt xv.toArray (((i : Nat) : Int) + 1) (.str (tx x') t') := hIx'
              have hne2 : (tx x' == tx x) = false := tx_ne (hxn i x x' hxi hx').symm
              k_steps
              refine Stop.go (whl_start 1 ?_)
              k_steps
              rcases Nat.lt_or_ge (j + 1) ys.length with h3 | h3
              · obtain ⟨y', hy'⟩ : ∃ y', ys[j + 1]? = some y' := ⟨_, List.getElem?_eq_getElem h3⟩
                revert y' hy'
                intro y' hy'
                obtain ⟨t2', hIy'⟩ := hgy (j + 1) y' hy'
                revert t2' hIy'
                intro t2' hIy'
                have hIy2 : ItemAt yv.toArray (((j : Nat) : Int) + 1) (.str (tx y') t2') := hIy'
                have hne3 : (tx y' == tx y) = false := tx_ne (hyn j y y' hyj hy').symm
                refine Stop.go (whl_start 1 ?_)
                k_steps
                exact AgainW.next (by assumption) (by assumption) (k' := (xs.length - (i + 1)) + (ys.length - (j + 1)) + 1) (by omega) (fun _ h => h) ⟨by k_extra "kept", i + 1, j + 1, mi, us, mv, uv, cm, cu, rfl, Nat.le_of_lt h2, Nat.le_of_lt h3, .of rfl (by omega), .of rfl (by omega), hmv, huv, by omega, by omega, r1, r2, rfl⟩
              · have hOy : OutAt yv.toArray (((j : Nat) : Int) + 1) := ⟨hz2, by rw [List.size_toArray, ← hyv.length]; omega, by omega⟩
                have hjl : j + 1 = ys.length := by omega
                rw [hjl, List.drop_length, mgL_nil] at r1 r2
                refine Stop.go (whl_start 1 ?_)
                k_steps
                rename News _ _ _ _ => NL
                exact .inl ⟨_, _, _, _, _, rfl, (by first | assumption | (rw [← List.push_toArray]; assumption)), (by assumption), trivial, ⟨i + 1, j + 1, mi, us, mv, uv, _, _, rfl, rfl, rfl, rfl, .of rfl rfl, .of rfl rfl, hmv, huv, by omega, by omega, by omega, by omega, r1, by rw [hjl, List.drop_length]; exact r2, rfl⟩, g', _, _, rfl, KtsTurn.refl, B', D', (by assumption), NL⟩
            · have hOx : OutAt xv.toArray (((i : Nat) : Int) + 1) := ⟨hz1, by rw [List.size_toArray, ← hxv.length]; omega, by omega⟩
              have hil : i + 1 = xs.length := by omega
              k_steps
              refine Stop.go (whl_start 1 ?_)
              k_steps
              rename News _ _ _ _ => NL
              exact .inl ⟨_, _, _, _, _, rfl, (by assumption), (by assumption), rfl, ⟨rfl, rfl, rfl, rfl, .of rfl rfl, .of rfl rfl, rfl, hil, rfl⟩, g', _, _, rfl, KtsTurn.refl, B', D', (by assumption), NL⟩
          case fin2 =>
            intro ex s₁
            intro zz9
            obtain ⟨zz10, oe, ctx, TT, oT, m3, led, hex, f1, f2, f3, f4, zz11, f5, zz12, g2, h2, tk2, zz13, f6, f7, f8, f9, f10⟩ := zz9
            revert zz10 oe ctx TT oT m3 led hex f1 f2 f3 f4 zz11 f5 zz12 g2 h2 tk2 zz13 f6 f7 f8 f9 f10
            intro _ oe ctx TT oT m3 led hex f1 f2 f3 f4 zz11 f5 zz12 g2 h2 tk2 zz13 f6 f7 f8 f9 f10
            subst zz11 zz13
            obtain ⟨b1, b2, b3, b4, zz14, zz15, b7, b8, zz16⟩ := zz12
            revert b1 b2 b3 b4 zz14 zz15 b7 b8 zz16
            intro b1 b2 b3 b4 zz14 zz15 b7 b8 zz16
            subst zz16
            obtain ⟨ti2, b5⟩ := zz14
            revert ti2 b5
            intro ti2 b5
            obtain ⟨tj2, b6⟩ := zz15
            revert tj2 b6
            intro tj2 b6
            cases hex
            have hA2 : (Around.mark ((ktrTop dp un gd cn cs L a ccd cl outer).deeper (envX (PySem.Str.ofString "sorted_list_difference") cs L' 95 (.ref 94) [])) (some (.ref ex))).handled = some (.ref ex) := rfl
            have F3 := fr_to f9 (mapK_eq (KeptK.refl [PySem.Str.ofString "expected", PySem.Str.ofString "actual", PySem.Str.ofString "missing", PySem.Str.ofString "unexpected", PySem.Str.ofString "i", PySem.Str.ofString "j", PySem.Str.ofString "a"] m3))
            dsimp only [mapK] at F3
            rw [b1, b2, b3, b4, b5, b6, b7] at F3
            rw [b8, List.drop_length, mgL] at r1 r2
            have hnx : ∀ p ∈ (lu, W.listOf uv.toArray cu) :: (lm, W.listOf mv.toArray cm) :: news, p.1 ≠ ex := f1
            clear F1 N1 X' T' B' f9
            have X2 := X.keeps f7.stays
            have T2 := T.keeps f7.stays
            rcases Nat.lt_or_ge (j + 1) ys.length with h3 | h3
            · obtain ⟨y', hy'⟩ : ∃ y', ys[j + 1]? = some y' := ⟨_, List.getElem?_eq_getElem h3⟩
              revert y' hy'
              intro y' hy'
              obtain ⟨t2', hIy'⟩ := hgy (j + 1) y' hy'
              revert t2' hIy'
              intro t2' hIy'
              have hIy2 : ItemAt yv.toArray (((j : Nat) : Int) + 1) (.str (tx y') t2') := hIy'
              have hne3 : (tx y' == tx y) = false := tx_ne (hyn j y y' hyj hy').symm
              k_steps
              refine Stop.go (whl_start 1 ?_)
              k_steps
              rename News _ _ _ _ => NL
              exact ⟨ex, oe, _, TT, oT, _, _, rfl, f1, f2, f3, f4, trivial, f5, ⟨i + 1, j + 1, mi, us, mv, uv, cm, cu, rfl, rfl, rfl, rfl, .of rfl rfl, .of rfl rfl, hmv, huv, by omega, by omega, by omega, by omega, by rw [b8, List.drop_length]; exact r1, r2, rfl⟩, g2, _, _, rfl, f6, f7, f8, (by assumption), NL⟩
            · have hOy : OutAt yv.toArray (((j : Nat) : Int) + 1) := ⟨hz2, by rw [List.size_toArray, ← hyv.length]; omega, by omega⟩
              have hjl : j + 1 = ys.length := by omega
              k_steps
              refine Stop.go (whl_start 1 ?_)
              k_steps
              rename News _ _ _ _ => NL
              rename ∀ p ∈ (ex, oe) :: (TT, oT) :: (lu, W.listOf uv.toArray cu) :: (lm, W.listOf mv.toArray cm) :: news, _ => hnz
              exact .inl ⟨_, _, _, _, _, rfl, (fun p hp => hnz p (List.mem_cons_of_mem _ (List.mem_cons_of_mem _ hp))), (by assumption), trivial, ⟨i + 1, j + 1, mi, us, mv, uv, cm, cu, rfl, rfl, rfl, rfl, .of rfl rfl, .of rfl rfl, hmv, huv, by omega, by omega, by omega, by omega, by rw [b8, List.drop_length]; exact r1, r2, rfl⟩, g2, _, _, rfl, f6, f7, f8, (by assumption), (fun p hp => NL p (Sub.cons List.mem_cons_self (Sub.skip (Sub.skip (Sub.skip Sub.refl))) p hp))⟩
      · have hOy : OutAt yv.toArray ((j : Nat) : Int) := ⟨hz2, by rw [List.size_toArray, ← hyv.length]; omega, by omega⟩
        have hjl : j = ys.length := by omega
        rw [hjl, List.drop_length, mgL_nil] at r1 r2
        k_steps
        exact .inl ⟨_, _, _, _, _, rfl, (by first | assumption | (rw [← List.push_toArray]; assumption)), (by assumption), trivial, ⟨i, j, mi, us, mv, uv, cm, cu, rfl, rfl, rfl, rfl, .of rfl rfl, .of rfl rfl, hmv, huv, hi, hj, hml, hul, r1, by rw [hjl, List.drop_length]; exact r2, rfl⟩, g', _, _, rfl, KtsTurn.refl, B', D', (by assumption), (by assumption)⟩
    · have hOx : OutAt xv.toArray ((i : Nat) : Int) := ⟨hz1, by rw [List.size_toArray, ← hxv.length]; omega, by omega⟩
      have hil : i = xs.length := by omega
      rw [hil, List.drop_length, mgL] at r1 r2
      k_steps
      exact .inl ⟨_, _, _, _, _, rfl, (by first | assumption | (rw [← List.push_toArray]; assumption)), (by assumption), trivial, ⟨i, j, mi, us, mv, uv, cm, cu, rfl, rfl, rfl, rfl, .of rfl rfl, .of rfl rfl, hmv, huv, hi, hj, hml, hul, by rw [hil, List.drop_length]; exact r1, r2, rfl⟩, g', _, _, rfl, KtsTurn.refl, B', D', (by assumption), (by assumption)⟩
theorem main (hx : (lx, W.listOf xv.toArray cx) ∈ news) (hy : (ly, W.listOf yv.toArray cy) ∈ news) (hxv : F2 TxtV xs xv) (hyv : F2 TxtV ys yv) (hxn : ∀ i a b, xs[i]? = some a → xs[i + 1]? = some b → a ≠ b) (hyn : ∀ i a b, ys[i]? = some a → ys[i + 1]? = some b → a ≠ b) (hxl : xs.length ≤ 1000) (hyl : ys.length ≤ 1000) : FnSG w 870 95 [.ref lx, .ref ly] news (SldP xs ys news) p loose mean mg mb dp un gd cn cs a ccd cl outer A₀ base h₀ L m s Q E := by
  intro B F N X T C1 C2 D hk hd hu hret
  refine wpAny_call ?_
  with_unfolding_all refine' code_myS (binds := [(PySem.Str.ofString "expected", .ref lx), (PySem.Str.ofString "actual", .ref ly)]) B F N X T D ?kA ?kF ?kK ?ko ?est ?kcd ?kroom ?kbind ?kloc ?knd (fun g₁ l₁ h₁ t₁ => pick_all evne (P := fun e => BH e.g e.l e.h e.t) ?bd ⟨g₁, l₁, h₁, t₁⟩) ?kco ?kgen ?kkind
  (case kA => exact rfl)
  (case kF => exact rfl)
  (case kK => exact hk)
  (case ko => k_is)
  (case est => exact rfl)
  (case kcd => k_is)
  (case kroom => (show dp < 1000; omega))
  (case kbind => exact BindsTo.of_eq rfl)
  (case kloc => exact kindsX rfl)
  (case knd => decide +kernel)
  (case kco => exact rfl)
  (case kgen => exact rfl)
  (case kkind => exact rfl)
  (case bd => with_unfolding_all exact body hx hy hxv hyv hxn hyn hxl hyl B X T C1 C2 D hk hd hu hret)
theorem goal_q : Goal q := by with_unfolding_all exact main
end Ksld
theorem sld (w : World) (xs ys : List (List Nat)) (xv yv : List Value) (lx ly : Addr) (cx cy : Nat) (news : Led) (hx : (lx, W.listOf xv.toArray cx) ∈ news) (hy : (ly, W.listOf yv.toArray cy) ∈ news) (hxv : F2 TxtV xs xv) (hyv : F2 TxtV ys yv)
    (hxn : ∀ i a b, xs[i]? = some a → xs[i + 1]? = some b → a ≠ b) (hyn : ∀ i a b, ys[i]? = some a → ys[i + 1]? = some b → a ≠ b) (hxl : xs.length ≤ 1000) (hyl : ys.length ≤ 1000) :
    FnS w 870 95 [.ref lx, .ref ly] news (SldP xs ys news) := by
  exact fun p loose mean mg mb dp un gd cn cs a ccd cl outer A₀ base h₀ L m s Q E => pick_all Ksld.ne (P := Ksld.Goal) Ksld.goal_q ⟨w, xs, ys, xv, yv, lx, ly, cx, cy, news, p, loose, mean, mg, mb, dp, un, gd, cn, cs, a, ccd, cl, outer, A₀, base, h₀, L, m, s, Q, E⟩ hx hy hxv hyv hxn hyn hxl hyl
end S_FSl
section S_Cm
open PyProof.Rows.LCg PyProof.Rows.LCt PySem.SeqAt
section
variable {prog : Program} {w : World} {A : Around} {E : Value → Shared → Prop} {s : Shared} {h₀ : Heap} {L l : Addr} {m : PySem.Str → Option Value} {news : Led} {ls : List (List Nat)} {vs : List Value} {cap : Nat} {Q : Value → Shared → Prop}
noncomputable def isTx (c : List Nat) : Value → Bool
  | .str x _ => x == tx c
  | _ => false
theorem isTx_any {c : List Nat} : ∀ {ls : List (List Nat)} {vs : List Value}, F2 TxtV ls vs → vs.any (isTx c) = decide (c ∈ ls)
  | _, _, .nil => by simp
  | a :: r, v :: q, .cons ⟨t, e⟩ h => by
    subst e
    rw [List.any_cons, isTx_any h]
    by_cases e : a = c
    · subst e; simp [isTx]
    · have : isTx c (.str (tx a) t) = false := tx_ne e
      rw [this]; simp [Ne.symm e]
theorem txs_eqs {c : List Nat} {t : Tok} (hv : F2 TxtV ls vs) : ∀ y ∈ vs.toArray, EqAt A s y (.str (tx c) t) (isTx c y) := by
  intro y hy
  obtain ⟨a, _, u, rfl⟩ := hv.mem y (by simpa using hy)
  exact EqAt.str_str (tx a) u (tx c) t
theorem in_texts {c : List Nat} {t : Tok} {b : Bool} (N : News h₀ L s.heap news) (hm : (l, W.listOf vs.toArray cap) ∈ news) (hv : F2 TxtV ls vs) (hb : decide (c ∈ ls) = b) (h : Q (.bool b) s) : wpAny (model prog w) A (compareOp .In (.str (tx c) t) (.ref l)) Q E s := by
  refine in_listAt (isTx c) (isList_of N hm) (txs_eqs hv) ?_
  rw [List.any_toArray, isTx_any hv, hb]; exact h
theorem notin_texts {c : List Nat} {t : Tok} {b : Bool} (N : News h₀ L s.heap news) (hm : (l, W.listOf vs.toArray cap) ∈ news) (hv : F2 TxtV ls vs) (hb : (!decide (c ∈ ls)) = b) (h : Q (.bool b) s) : wpAny (model prog w) A (compareOp .NotIn (.str (tx c) t) (.ref l)) Q E s := by
  refine notIn_listAt (isTx c) (isList_of N hm) (txs_eqs hv) ?_
  rw [List.any_toArray, isTx_any hv, hb]; exact h
theorem lists_same {a b : Addr} {v1 v2 : List Value} {c1 c2 : Nat} (N : News h₀ L s.heap news) (h1 : (a, W.listOf v1.toArray c1) ∈ news) (h2 : (b, W.listOf v2.toArray c2) ∈ news) (e1 : F2 TxtV ls v1) (e2 : F2 TxtV ls v2) (hu : A.units < cLine) : EqAt A s (.ref a) (.ref b) true := by
  by_cases e : a = b
  · subst e; exact EqAt.same _
  · have hsz : v1.toArray.size = v2.toArray.size := by rw [List.size_toArray, List.size_toArray, ← e1.length, ← e2.length]
    have := RcAt.lists (A := A) (e := fun _ => true) (isList_of N h1) (isList_of N h2) hsz hu (fun j q1 q2 => by
      have j1 : j < ls.length := by rw [e1.length]; simpa using q1
      obtain ⟨c, hc⟩ : ∃ c, ls[j]? = some c := ⟨_, List.getElem?_eq_getElem j1⟩
      obtain ⟨_, g1, t1, rfl⟩ := e1.get j hc
      obtain ⟨_, g2, t2, rfl⟩ := e2.get j hc
      have w1 : v1.toArray[j] = .str (tx c) t1 := by
        have := (List.getElem?_eq_some_iff.mp g1).2; simpa using this
      have w2 : v2.toArray[j] = .str (tx c) t2 := by
        have := (List.getElem?_eq_some_iff.mp g2).2; simpa using this
      rw [w1, w2]
      have := EqAt.str_str (A := A.in1) (s := s) (tx c) t1 (tx c) t2
      rwa [beq_self_eq_true] at this)
    have hall : (List.range v1.toArray.size).all (fun _ => true) = true := by simp
    rw [hall] at this
    exact EqAt.of_refs e this
theorem pairs_same {T1 T2 a1 b1 a2 b2 : Addr} {ms : List (List Nat)} {va1 va2 vb1 vb2 : List Value} {ca1 ca2 cb1 cb2 : Nat} (N : News h₀ L s.heap news) (t1 : (T1, ({ cls := .type "tuple", data := .seq #[.ref a1, .ref b1] } : Obj)) ∈ news) (t2 : (T2, ({ cls := .type "tuple", data := .seq #[.ref a2, .ref b2] } : Obj)) ∈ news)
    (h1 : (a1, W.listOf va1.toArray ca1) ∈ news) (h2 : (a2, W.listOf va2.toArray ca2) ∈ news) (h3 : (b1, W.listOf vb1.toArray cb1) ∈ news) (h4 : (b2, W.listOf vb2.toArray cb2) ∈ news) (e1 : F2 TxtV ls va1) (e2 : F2 TxtV ls va2) (e3 : F2 TxtV ms vb1) (e4 : F2 TxtV ms vb2)
    (hu : A.in1.units < cLine) (hu0 : A.units < cLine) (h : Q (.bool false) s) : wpAny (model prog w) A (compareOp .NotEq (.ref T1) (.ref T2)) Q E s := by
  have it : ∀ {T a b : Addr}, (T, ({ cls := .type "tuple", data := .seq #[.ref a, .ref b] } : Obj)) ∈ news → s.heap.IsTuple T #[.ref a, .ref b] := fun hm => ⟨_, (N _ hm).1, rfl, _, rfl⟩
  have := RcNeAt.tuples (A := A) (e := fun _ => true) (it t1) (it t2) hu0 (fun j q1 q2 => by
    have hj : j = 0 ∨ j = 1 := by have : j < 2 := q1; omega
    rcases hj with rfl | rfl
    · exact lists_same N h1 h2 e1 e2 hu
    · exact lists_same N h3 h4 e3 e4 hu)
  exact this prog w E Q h
noncomputable def TEnd (h₀ : Heap) (L : Addr) (s : Shared) (m : PySem.Str → Option Value) (led : Led) (b ok : Bool) (s' : Shared) : Prop := ok = b ∧ ∃ h' tk', s' = { s with heap := h', toks := tk' } ∧ Fr h₀ L h' m ∧ News h₀ L h' led
theorem TEnd.mk {led : Led} {b : Bool} {h' : Heap} {tk' : Nat} {all : Led} (F : Fr h₀ L h' m) (N : News h₀ L h' all) (hs : ∀ p ∈ led, p ∈ all) : TEnd h₀ L s m led b b { s with heap := h', toks := tk' } := ⟨rfl, h', tk', rfl, F, fun p hp => N p (hs p hp)⟩
noncomputable def EEnd (h₀ : Heap) (L : Addr) (s : Shared) (m : PySem.Str → Option Value) (led : Led) (P : Value → Prop) (y : Value) (s' : Shared) : Prop := P y ∧ ∃ h' tk', s' = { s with heap := h', toks := tk' } ∧ Fr h₀ L h' m ∧ News h₀ L h' led
theorem EEnd.mk {led : Led} {P : Value → Prop} {y : Value} {h' : Heap} {tk' : Nat} {all : Led} (F : Fr h₀ L h' m) (N : News h₀ L h' all) (hs : ∀ p ∈ led, p ∈ all) (hp : P y) : EEnd h₀ L s m led P y { s with heap := h', toks := tk' } := ⟨hp, h', tk', rfl, F, fun p hp => N p (hs p hp)⟩
variable {env : Env} {elt ct : Expr} {x : PySem.Str} {scope : Scope} {cl : List (PySem.Str × Addr)}
theorem filt_texts {ax : Addr} {k : Nat} (pz : List Nat → Bool) (fz : List Nat → List Nat) (hh : A.handled = none) (F : Fr h₀ L s.heap m) (N : News h₀ L s.heap news) (hm : (ax, W.listOf vs.toArray k) ∈ news) (hv : F2 TxtV ls vs) (hl : ls.length ≤ 100000)
    (test : ∀ (i : Nat) c t I oI C oC D ys m₂ h g tk (E' : Value → Shared → Prop), ls[i]? = some c → NsObj oC m₂ → m₂ x = some (.str (tx c) t) → Fr h₀ L h m → News h₀ L h ((I, oI) :: (C, oC) :: (D, lst ys) :: news) →
      wpAny (model prog w) A (isTrue ct (compEnvC scope cl C env) (eval ct (compEnvC scope cl C env))) (TEnd h₀ L { s with heap := g } m ((I, oI) :: (C, oC) :: (D, lst ys) :: news) (pz c)) E' { s with heap := h, toks := tk })
    (elem : ∀ (i : Nat) c t I oI C oC D ys m₂ h g tk (E' : Value → Shared → Prop), ls[i]? = some c → pz c = true → NsObj oC m₂ → m₂ x = some (.str (tx c) t) → Fr h₀ L h m → News h₀ L h ((I, oI) :: (C, oC) :: (D, lst ys) :: news) →
      wpAny (model prog w) A (eval elt (compEnvC scope cl C env)) (EEnd h₀ L { s with heap := g } m ((I, oI) :: (C, oC) :: (D, lst ys) :: news) (TxtV (fz c))) E' { s with heap := h, toks := tk })
    (fin : ∀ ys D h tk, F2 TxtV ((ls.filter pz).map fz) ys → Fr h₀ L h m → News h₀ L h ((D, lst ys) :: news) → Off1 D news → Q (.ref D) { s with heap := h, toks := tk }) :
    CompSrcT prog w A h₀ L m env ct elt x scope cl (fun s₂ => FinE h₀ L m s₂ Q) (.ref ax) s := by
  have hsz : vs.toArray.size = ls.length := by rw [List.size_toArray, hv.length]
  refine CompSrcT.ledger hh F N hm (by rw [hsz]; exact le_sizeLine (by omega)) fun g => ?_
  have main : ∀ n i ys, i + n = ls.length → F2 TxtV (((ls.take i).filter pz).map fz) ys → CompRestT prog w A h₀ L m env ct elt x scope cl { s with heap := g } (SrcAt h₀ ax vs.toArray) (fun i v => vs.toArray[i]? = some v) (FinE h₀ L m { s with heap := g } Q) n i ys news := by
    intro n
    induction n with
    | zero =>
      intro i ys e hj
      refine .zero fun D h tk F' N' off => ?_
      have : i = ls.length := by omega
      rw [this, List.take_length] at hj
      exact fin ys D h tk hj F' N' off
    | succ n ih =>
      intro i ys e hj
      refine .succ fun v I oI C oC D m₂ h tk E' hP ho hx F' N' off ne => ?_
      have hi : i < ls.length := by omega
      obtain ⟨c, hc⟩ : ∃ c, ls[i]? = some c := ⟨_, List.getElem?_eq_getElem hi⟩
      obtain ⟨_, e1, t, rfl⟩ := hv.get i hc
      have e2 : vs[i]? = some v := by simpa using hP
      rw [e1] at e2
      cases e2
      have etake : ls.take (i + 1) = ls.take i ++ [c] := by rw [List.take_add_one, hc]; rfl
      refine wpAny_mono (test i c t I oI C oC D ys m₂ h g tk E' hc ho hx F' N') (fun ok s' h1 => ?_) fun _ _ e => e
      obtain ⟨rfl, h', tk', rfl, F2', N2'⟩ := h1
      cases hpz : pz c with
      | true =>
        rw [if_pos rfl]
        refine wpAny_mono (elem i c t I oI C oC D ys m₂ h' g tk' E' hc hpz ho hx F2' N2') (fun y s'' h2 => ?_) fun _ _ e => e
        obtain ⟨hy, h'', tk'', rfl, F3, N3⟩ := h2
        refine ⟨h'', tk'', news, rfl, F3, N3, off, ?_, ih (i + 1) _ (by omega) ?_⟩
        · exact .inr ⟨_, hm, rfl, _, rfl⟩
        · rw [etake, List.filter_append, List.map_append, List.filter_cons_of_pos hpz]
          exact hj.snoc hy
      | false =>
        rw [if_neg (by decide)]
        refine ⟨h', tk', news, rfl, F2', N2', off, ?_, ih (i + 1) _ (by omega) ?_⟩
        · exact .inr ⟨_, hm, rfl, _, rfl⟩
        · rw [etake, List.filter_append, List.filter_cons_of_neg (by simp [hpz]), List.filter_nil, List.append_nil]
          exact hj
  rw [hsz]
  exact main ls.length 0 [] (Nat.zero_add _) .nil
end
end S_Cm
section S_So
theorem strsAre_txs : ∀ {ls : List (List Nat)} {vs : List Value}, F2 TxtV ls vs → StrsAre vs (ls.map tx)
  | _, _, .nil => .nil
  | _, _, .cons ⟨t, e⟩ h => by subst e; exact .cons _ t (strsAre_txs h)
theorem txs_strsAre : ∀ {vs : List Value} {ss : List PySem.Str}, StrsAre vs ss → F2 TxtV (ss.map fun x => x.cps.toList) vs
  | _, _, .nil => .nil
  | _, _, .cons x t h => .cons ⟨t, rfl⟩ (txs_strsAre h)
theorem sorted_txs {ls : List (List Nat)} {vs : List Value} (hv : F2 TxtV ls vs) {xs : Array Keyed} (hp : xs.Perm (pairsOf vs)) (hs : SortedToK PyProof.Rows.strKind xs (pairsOf vs).size) :
    ∃ ls', F2 TxtV ls' (xs.map (·.2)).toList ∧ ls'.Perm ls ∧ ls'.Pairwise (fun a b => ¬ b < a) := by
  have hS := strsAre_txs hv
  obtain ⟨ss', h1, h2, _⟩ := sorted_out_str hS hp hs
  have e3 : (ls.map tx).map (fun x => x.cps.toList) = ls := by rw [List.map_map]; exact (List.map_congr_left fun _ _ => rfl).trans (List.map_id _)
  refine ⟨_, txs_strsAre h1, e3 ▸ h2.map _, ?_⟩
  have hl : xs.toList.Perm (vs.zip vs) := by rw [← pairsOf_toList]; exact Array.perm_iff_toList_perm.mp hp
  have hmem : ∀ p, p ∈ xs.toList → p.1 = p.2 ∧ p.1 ∈ vs := fun p hp' => mem_zip_self (hl.mem_iff.mp hp')
  rw [← h1.strs, List.map_map, List.pairwise_iff_getElem]
  intro i j hi hj hij
  have hi' : i < xs.size := by simpa using hi
  have hj' : j < xs.size := by simpa using hj
  have h3 := hs i j (Nat.le_of_lt hij) (by rw [← hp.size_eq]; exact hj')
  obtain ⟨x, t, ex⟩ := hS.all _ (hmem xs[i] (by simp)).2
  obtain ⟨y, u, ey⟩ := hS.all _ (hmem xs[j] (by simp)).2
  rw [KK_str hi' (x := x) (t := t) (q := xs[i].2) (Prod.ext ex rfl), KK_str hj' (x := y) (t := u) (q := xs[j].2) (Prod.ext ey rfl)] at h3
  have h4 : decide (y.cps.toList < x.cps.toList) = false := h3
  have ex2 : xs[i].2 = .str x t := (hmem xs[i] (by simp)).1 ▸ ex
  have ey2 : xs[j].2 = .str y u := (hmem xs[j] (by simp)).1 ▸ ey
  simp only [List.getElem_map, Array.toList_map, Array.getElem_toList, Function.comp]
  rw [ex2, ey2]
  exact of_decide_eq_false h4
theorem strKind_inv {prog : Program} {w : World} {k : PySem.Str} {v : Value} (h : (PySem.strKind prog w).is k v = true) : ∃ t, v = .str k t := by
  cases v with
  | str x t => exact ⟨t, by have h : (x == k) = true := h; rw [eq_of_beq h]⟩
  | _ => exact absurd (show false = true from h) (by decide)
theorem keys_txs {prog : Program} {w : World} : ∀ (ls : List (List Nat)) (vs : List Value) (ks : List PySem.Str), ls.map tx = ks → vs.length = ks.length → (∀ (j : Nat) v, vs[j]? = some v → ∃ k, ks[j]? = some k ∧ (PySem.strKind prog w).is k v = true) → F2 TxtV ls vs
  | [], [], _, _, _, _ => .nil
  | [], _ :: _, _, e1, e2, _ => by subst e1; cases e2
  | _ :: _, [], _, e1, e2, _ => by subst e1; cases e2
  | a :: r, v :: q, _, e1, e2, e3 => by
    subst e1
    obtain ⟨k, g1, g2⟩ := e3 0 v rfl
    cases g1
    exact .cons (strKind_inv g2) (keys_txs r q _ rfl (by simpa using e2) fun j v hj => e3 (j + 1) v hj)
section
variable {prog : Program} {w : World} {A : Around} {E : Value → Shared → Prop} {s : Shared} {h₀ : Heap} {L l d : Addr} {m : PySem.Str → Option Value} {news : Led} {ls : List (List Nat)} {vs : List Value} {cap : Nat} {Q : Value → Shared → Prop}
theorem sorted_list (F : Fr h₀ L s.heap m) (N : News h₀ L s.heap news) (hm : (l, W.listOf vs.toArray cap) ∈ news) (hv : F2 TxtV ls vs) (h64 : ls.length < 64)
    (h : ∀ D h' vs' ls' e, Fr h₀ L h' m → News h₀ L h' ((D, W.listOf vs'.toArray e) :: news) → (∀ q ∈ news, q.1 < D) → F2 TxtV ls' vs' → ls'.Perm ls → ls'.Pairwise (fun a b => ¬ b < a) → Q (.ref D) { s with heap := h' }) :
    wpAny (model prog w) A (call (.builtin "sorted") [.ref l]) Q E s := by
  have hS := strsAre_txs hv
  refine sortedK strKind_oneLt (isList_of N hm) hS.keysOf (fun v₁ v₂ rest e => keyKind_strs (by rw [← e]; exact hS)) (by rw [← hv.length]; exact h64) fun st' hp hs => ?_
  obtain ⟨ls', h1, h2, h3⟩ := sorted_txs hv hp hs
  obtain ⟨e, he⟩ := sortedAll_at s.heap vs ((arrOf st').map (·.2))
  exact h _ _ ((arrOf st').map (·.2)).toList ls' e (F.kept fun _ _ => sortedAll_old) (N.kept_cons F (fun _ _ => sortedAll_old) (Nat.le_succ _) he) (fun q hq => Nat.lt_succ_of_lt (Heap.lt_size (N q hq).1)) h1 h2 h3
theorem sorted_dict {o : Obj} {kvs : List (PySem.Str × Value)} (hh : A.handled = none) (F : Fr h₀ L s.heap m) (N : News h₀ L s.heap news) (hm : (d, o) ∈ news) (hd : o.IsDictOf (PySem.strKind prog w) kvs) (lo : (d == sysModules) = false) (hk : ls.map tx = kvs.map (·.1)) (h64 : ls.length < 64)
    (h : ∀ D h' tk vs' ls' e, Fr h₀ L h' m → News h₀ L h' ((D, W.listOf vs'.toArray e) :: news) → (∀ q ∈ news, q.1 < D) → F2 TxtV ls' vs' → ls'.Perm ls → ls'.Pairwise (fun a b => ¬ b < a) → Q (.ref D) { s with heap := h', toks := tk }) :
    wpAny (model prog w) A (call (.builtin "sorted") [.ref d]) Q E s := by
  have hlk : kvs.length = ls.length := by have := congrArg List.length hk; simpa using this.symm
  obtain ⟨ep, hat⟩ := (kda_dict N hm hd).dictAt
  refine kdu_sorted (kdl_dict (knd := PySem.strKind prog w) (kvs := kvs) (ep := ep) lo) hh F N hat (le_sizeLine (by omega)) fun D h' tk vs F' N' l1 hl hv => ?_
  have hv2 : F2 TxtV ls vs := by
    refine keys_txs (prog := prog) (w := w) ls vs _ hk (by rw [hl]; simp) fun j v hj => ?_
    obtain ⟨k, x, g1, g2⟩ := hv j v hj
    exact ⟨k, by simp [g1], g2⟩
  have hS := strsAre_txs hv2
  have hD := (N' _ List.mem_cons_self).1
  refine wpAny_call_entry PyProof.Rows.slot_list_sort ⟨_, hD, rfl⟩ PyProof.Rows.entry_list_sort (list_sort_treeK strKind_oneLt hD hS.keysOf (fun v₁ v₂ rest e => keyKind_strs (by rw [← e]; exact hS)) (by rw [← hv2.length]; exact h64) fun st' hp hs => ⟨_, rfl, ?_⟩) (PyProof.Rows.args_list_sort _)
  obtain ⟨ls', h1, h2, h3⟩ := sorted_txs hv2 hp hs
  obtain ⟨e, he⟩ := sortedHeap_at (vs := vs) (out := (arrOf st').map (·.2)) hD
  have hold : ∀ b o, b ≠ D → h'.get? b = some o → (sortedHeap h' D vs ((arrOf st').map (·.2))).get? b = some o := fun b o hb hg => by
    rw [sortedHeap_old hb (Heap.lt_size hg)]; exact hg
  have nD := N' _ List.mem_cons_self
  refine h D _ tk ((arrOf st').map (·.2)).toList ls' e ⟨?_, fun b o hb => hold b o (fun q => by rw [q, nD.2.2] at hb; cases hb) (F'.keep b o hb), F'.above⟩ (fun p hp => ?_) l1 h1 h2 h3
  · exact F'.ns.at' fun o hg => hold _ o (fun q => nD.2.1 q.symm) hg
  · rcases List.mem_cons.mp hp with rfl | hp
    · exact ⟨he, nD.2⟩
    · have n := N' p (List.mem_cons_of_mem _ hp)
      exact ⟨hold _ _ (Nat.ne_of_lt (l1 p hp)) n.1, n.2⟩
end
end S_So
section S_Ls
section
variable {prog : Program} {w : World} {A A₀ : Around} {E : Value → Shared → Prop} {s : Shared} {env : Env} {base g₀ : Heap} {outer : List Env} {L : Addr}
noncomputable def TurnsS (prog : Program) (w : World) (A : Around) (env : Env) (target : Expr) (body : List Stmt) (Q : Flow → Shared → Prop) (E : Value → Shared → Prop) (it : Value) (s₂ : Shared) : Prop :=
  codeAny (model prog w) A (.forLoop target it body [] env) (fun r s' => match r with | .ok f => Q f s' | .error e => cameBackBy (model prog w) A env E e s') s₂
theorem For_S {target iter : Expr} {body : List Stmt} {pos : Pos} {Q : Flow → Shared → Prop}
    (h : wpAny (model prog w) A (eval iter env) (fun xv s₁ => wpAny (model prog w) A (pyIter xv) (fun it s₂ => TurnsS prog w A env target body Q E it s₂) E s₁) E s)
    (hs : ∀ x, foldedSetIterable iter env x = pure x := by intro _; rfl) :
    wpAny (model prog w) A (exec (.For target iter body [] pos) env) Q E s :=
  wpAny_For (wpAny_mono h (fun _ _ h₁ => wpAny_mono h₁ (fun _ _ h₂ => h₂) fun _ _ e => e) fun _ _ e => e) hs
noncomputable abbrev rItO (x left step : Int) : Obj := { cls := .type "range_iterator", dict := none, data := .fields #[rawInt x, rawInt left, rawInt step], slots := #[] }
inductive SEnd (A₀ : Around) (base : Heap) (outer : List Env) (g₀ : Heap) (L : Addr) (s : Shared) (its : Led) (J : (PySem.Str → Option Value) → Led → Prop) (s₂ : Shared) : Prop
  | mk (m : PySem.Str → Option Value) (led : Led) (hj : J m led) (off : ∀ p ∈ led, ∀ q ∈ its, p.1 ≠ q.1) (x : XB A₀ base outer g₀ L s m (its ++ led) s₂) : SEnd A₀ base outer g₀ L s its J s₂
inductive RngS (A₀ : Around) (base : Heap) (outer : List Env) (g₀ : Heap) (L : Addr) (s : Shared) (J : Nat → (PySem.Str → Option Value) → Led → Prop) (I : Addr) (a c : Int) (n : Nat) (k : Nat) (s' : Shared) : Prop
  | mk (i : Nat) (m : PySem.Str → Option Value) (led : Led) (hj : J i m led) (off : ∀ p ∈ led, p.1 ≠ I) (x : XB A₀ base outer g₀ L s m ((I, rItO (a + (i : Nat) * c) ((n : Int) - (i : Nat)) c) :: led) s') (hi : i ≤ n) (hk : k = n + 1 - i) : RngS A₀ base outer g₀ L s J I a c n k s'
noncomputable def AgainS (A₀ : Around) (base : Heap) (outer : List Env) (g₀ : Heap) (L : Addr) (s : Shared) (its : Led) (J : (PySem.Str → Option Value) → Led → Prop) (Q : Flow → Shared → Prop) (f : Flow) (s₂ : Shared) : Prop :=
  match f with
  | .ret v => Q (.ret v) s₂
  | .brk => Q .next s₂
  | _ => SEnd A₀ base outer g₀ L s its J s₂
theorem AgainS.next {s₁ : Shared} {g h' : Heap} {tk' : Nat} {its all news' : Led} {J : (PySem.Str → Option Value) → Led → Prop} {Q : Flow → Shared → Prop} {m' : PySem.Str → Option Value} (T : KtsTurn (frs outer) g₀ g) (B : Below A₀ base outer g) (D : KtsDicts (frs outer) g) (F : Fr g L h' m') (N : News g L h' all)
    (h1 : ∀ p ∈ its, p ∈ all) (h2 : ∀ p ∈ news', p ∈ all) (off : ∀ p ∈ news', ∀ q ∈ its, p.1 ≠ q.1) (hj : J m' news') (e : s₁ = { s with heap := h', toks := tk' } := by rfl) : AgainS A₀ base outer g₀ L s its J Q .next s₁ :=
  ⟨m', news', hj, off, g, h', tk', e, T, B, D, F, fun p hp => N p ((List.mem_append.mp hp).elim (h1 p) (h2 p))⟩
theorem range_S {target : Expr} {body : List Stmt} {Q : Flow → Shared → Prop} {r : Addr} {a b c : Int} {t u v : Tok} {n : Nat} {m₀ : PySem.Str → Option Value} {news : Led} (J : Nat → (PySem.Str → Option Value) → Led → Prop)
    (hh : A.handled = none) (hE : PassesOwn (model prog w) A env E) (B : Below A₀ base outer g₀) (D : KtsDicts (frs outer) g₀) (F : Fr g₀ L s.heap m₀) (N : News g₀ L s.heap news) (hr : IsRange s.heap r a b c t u v) (hsm : Builtin.Range.small a b c = true) (hn : Builtin.Range.rangeSize a b c = n)
    (hj : J 0 m₀ news)
    (step : ∀ i g h' tk' I oI m' led tt (QQ : Flow → Shared → Prop), i < n → J i m' led → (∀ p ∈ led, p.1 ≠ I) → KtsTurn (frs outer) g₀ g → Below A₀ base outer g → KtsDicts (frs outer) g → Fr g L h' m' → News g L h' ((I, oI) :: led) →
      QUp (AgainS A₀ base outer g₀ L s [(I, oI)] (J (i + 1)) Q) QQ →
      wpAny (model prog w) A (assign target env (.int (a + i * c) tt)) (fun _ s₂ => wpAny (model prog w) A (execs body env) QQ E s₂) E { s with heap := h', toks := tk' })
    (done : ∀ g h' tk' m' led, J n m' led → KtsTurn (frs outer) g₀ g → Below A₀ base outer g → KtsDicts (frs outer) g → Fr g L h' m' → News g L h' led → Q .next { s with heap := h', toks := tk' }) :
    wpAny (model prog w) A (pyIter (.ref r)) (fun it s₂ => TurnsS prog w A env target body Q E it s₂) E s := by
  refine wpAny_pyIter_range hr hsm ?_
  rw [hn]
  have hI0 : (s.heap.push (rItO a n c)).get? s.heap.objs.size = some (rItO a n c) := Heap.get?_push_size _ rfl
  obtain ⟨F1, N1, off1⟩ := pushed F N (fun b o e => Heap.get?_push_of_some (rItO a n c) e) (Heap.get?_none_of_le (Nat.le_refl _)) hI0
  refine codeAny_forLoop_any (RngS A₀ base outer g₀ L s J s.heap.objs.size a c n) ?_ (n + 1)
    ⟨0, m₀, news, hj, off1, ⟨g₀, _, s.toks, rfl, KtsTurn.refl, B, D, F1, by simpa using N1⟩, Nat.zero_le _, rfl⟩
  rintro k s' ⟨i, m, led, hJ, off, ⟨g, h, tk, rfl, T, B', D', F', N'⟩, hi, rfl⟩
  have hit := (N' _ List.mem_cons_self).1
  have keepB : ∀ {h₂ : Heap} {oI : Obj}, Heap.SameBut s.heap.objs.size h h₂ → h₂.get? s.heap.objs.size = some oI → Fr g L h₂ m ∧ News g L h₂ ((s.heap.objs.size, oI) :: led) := by
    intro h₂ oI hs ho
    have n0 := N' _ List.mem_cons_self
    refine ⟨F'.change hs n0.2.1 n0.2.2, fun p hp => ?_⟩
    rcases List.mem_cons.mp hp with rfl | hp
    · exact ⟨ho, n0.2⟩
    · have n1 := N' p (List.mem_cons_of_mem _ hp)
      exact ⟨(hs.2 _ (off p hp)).trans n1.1, n1.2⟩
  by_cases hlt : i < n
  · refine wpAny_pyNext_range_item hit (by omega) fun h₂ hit₂ hs => ?_
    refine letGo_ranger hit₂ ?_
    have e1 : a + ((i : Nat) : Int) * c + c = a + (((i + 1 : Nat)) : Int) * c := by rw [Int.natCast_add, Int.add_mul]; simp [Int.add_assoc]
    have e2 : (n : Int) - ((i : Nat) : Int) - 1 = (n : Int) - ((i + 1 : Nat) : Int) := by omega
    rw [e1, e2] at hit₂
    obtain ⟨F₂, N₂⟩ := keepB hs hit₂
    refine wpAny_mono (step i g h₂ _ _ _ m led _ _ hlt hJ off T B' D' F₂ N₂ QUp.rfl') (fun _ s₂ h₃ => wpAny_mono h₃ (fun f s₃ h₄ => ?_) hE) hE
    cases f with
    | ret v => exact h₄
    | brk => exact h₄
    | next =>
      obtain ⟨m', led', hj', off', x⟩ := h₄
      exact ⟨n + 1 - (i + 1), by omega, i + 1, m', led', hj', fun p hp => off' p hp _ List.mem_cons_self, x, hlt, rfl⟩
    | cont =>
      obtain ⟨m', led', hj', off', x⟩ := h₄
      exact ⟨n + 1 - (i + 1), by omega, i + 1, m', led', hj', fun p hp => off' p hp _ List.mem_cons_self, x, hlt, rfl⟩
  · have hin : i = n := by omega
    subst hin
    refine wpAny_pyNext_range_end hh hit (by omega) fun h₂ hs => wpAny_execs_nil ?_
    have F₂ : Fr g L h₂ m := by
      have n0 := N' _ List.mem_cons_self
      exact ⟨F'.ns.at' fun o e => hs _ o (fun q => n0.2.1 q.symm) e, fun b o e => hs b o (fun q => by rw [q, n0.2.2] at e; cases e) (F'.keep b o e), F'.above⟩
    exact done g h₂ _ m led hJ T B' D' F₂ fun p hp => ⟨hs _ _ (off p hp) (N' p (List.mem_cons_of_mem _ hp)).1, (N' p (List.mem_cons_of_mem _ hp)).2⟩
end
section
variable {A₀ : Around} {base g₀ : Heap} {outer : List Env} {L : Addr} {s : Shared}
noncomputable def CutS (A₀ : Around) (base : Heap) (outer : List Env) (g₀ : Heap) (L : Addr) (s : Shared) (P : (PySem.Str → Option Value) → Led → Prop) (f : Flow) (s' : Shared) : Prop := f = .next ∧ ∃ m led, P m led ∧ XB A₀ base outer g₀ L s m led s'
theorem CutS.mk {P : (PySem.Str → Option Value) → Led → Prop} {g h' : Heap} {tk' : Nat} {m : PySem.Str → Option Value} {led : Led} (T : KtsTurn (frs outer) g₀ g) (B : Below A₀ base outer g) (D : KtsDicts (frs outer) g) (F : Fr g L h' m) (N : News g L h' led) (p : P m led) : CutS A₀ base outer g₀ L s P .next { s with heap := h', toks := tk' } :=
  ⟨rfl, m, led, p, g, h', tk', rfl, T, B, D, F, N⟩
theorem cut_S {M : Model} {A : Around} {E : Value → Shared → Prop} {t : Sem Flow} {Q : Flow → Shared → Prop} (P : (PySem.Str → Option Value) → Led → Prop) (h : wpAny M A t (CutS A₀ base outer g₀ L s P) E s)
    (k : ∀ g h' tk' m led, P m led → KtsTurn (frs outer) g₀ g → Below A₀ base outer g → KtsDicts (frs outer) g → Fr g L h' m → News g L h' led → Q .next { s with heap := h', toks := tk' }) : wpAny M A t Q E s :=
  wpAny_mono h (fun _ _ ⟨e, m, led, p, g, h', tk', e2, T, B, D, F, N⟩ => by subst e e2; exact k g h' tk' m led p T B D F N) fun _ _ e => e
end
theorem DV.keys : ∀ {fs : List (List Nat × List Nat)} {kvs : List (PySem.Str × Value)}, DV fs kvs → kvs.map (·.1) = (fs.map (·.1)).map tx
  | _, _, .nil => rfl
  | _, _, .cons h t => by simp [h.1, DV.keys t]
theorem nodup_of_map {α β : Type} {f : α → β} : ∀ {l : List α}, (l.map f).Nodup → l.Nodup
  | [], _ => .nil
  | a :: l, h => by
    have ⟨h1, h2⟩ := List.nodup_cons.mp h
    exact List.nodup_cons.mpr ⟨fun hm => h1 (List.mem_map_of_mem hm), nodup_of_map h2⟩
theorem DV.nodup {w : World} {fs : List (List Nat × List Nat)} {kvs : List (PySem.Str × Value)} {o : Obj} (h : DV fs kvs) (hd : o.IsDictOf (PySem.strKind P0 w) kvs) : (fs.map (·.1)).Nodup := by
  obtain ⟨_, _, _, _, _, _, hn⟩ := hd
  rw [h.keys] at hn
  exact nodup_of_map hn
theorem fn_useS {w : World} {d : Nat} {f : Addr} {vs : List Value} {news : Led} {Post : Value → Led → Prop} {p : Program} {loose : List PySem.Str} {mean : ExcName → Option Value} {mg mb : PySem.Str → Option Value} {dp un : Nat} {gd : Option (List Code)} {cn : PySem.Str} {cs : Scope} {a : Addr} {ccd : Value} {cl : List (PySem.Str × Addr)} {outer : List Env} {A₀ : Around} {base h₀ : Heap} {L : Addr} {m : PySem.Str → Option Value} {s : Shared} {Q E : Value → Shared → Prop}
    (C : FnS w d f vs news Post) (B : Below A₀ base outer h₀) (F : Fr h₀ L s.heap m) (N : News h₀ L s.heap news) (X : (K0 w.params).In base) (T : Top p loose mean mg mb base) (C1 : CodeHd base 61 57) (C2 : CodeHd base 170 168) (D : KtsDicts (frs outer) h₀) (hk : cs.kind = .function) (hd : dp < d) (hu : un < 8 * d)
    (ret : ∀ h r news' h' tk', KtsTurn (frs outer) h₀ h → Below A₀ base outer h → KtsDicts (frs outer) h → Fr h L h' m → News h L h' news' → Post r news' → Q r { s with heap := h', toks := tk' }) :
    wpAny (model P0 w) (ktrTop dp un gd cn cs L a ccd cl outer) (call (.ref f) vs) Q E s := C _ _ _ _ _ _ _ _ _ _ _ _ _ _ _ _ _ _ _ _ _ _ B F N X T C1 C2 D hk hd hu ret
end S_Ls
section S_Pl
theorem nodup_len {α : Type} [DecidableEq α] : ∀ {l U : List α}, l.Nodup → (∀ x ∈ l, x ∈ U) → l.length ≤ U.length
  | [], _, _, _ => Nat.zero_le _
  | a :: l, U, hn, hs => by
    have ⟨h1, h2⟩ := List.nodup_cons.mp hn
    have ha : a ∈ U := hs a List.mem_cons_self
    have := nodup_len (l := l) (U := U.erase a) h2 fun x hx => (List.mem_erase_of_ne fun e => h1 (by rw [← e]; exact hx)).mpr (hs x (List.mem_cons_of_mem _ hx))
    rw [List.length_erase_of_mem ha] at this
    have hpos : 0 < U.length := List.length_pos_of_mem ha
    simp only [List.length_cons]
    omega
noncomputable def Rise (l : List (List Nat)) : Prop := l.Pairwise fun a b => a < b
theorem rise_of {l : List (List Nat)} (h : l.Pairwise fun a b => ¬ b < a) (hn : l.Nodup) : Rise l := by
  induction l with
  | nil => exact .nil
  | cons a r ih =>
    have ⟨p1, p2⟩ := List.pairwise_cons.mp h
    have ⟨n1, n2⟩ := List.nodup_cons.mp hn
    refine List.pairwise_cons.mpr ⟨fun b hb => ?_, ih p2 n2⟩
    rcases Decidable.em (a < b) with q | q
    · exact q
    · have : a = b := List.le_antisymm (List.not_lt.mp (p1 b hb)) (List.not_lt.mp q)
      exact absurd hb (this ▸ n1)
theorem Rise.next {l : List (List Nat)} (h : Rise l) : ∀ i a b, l[i]? = some a → l[i + 1]? = some b → a ≠ b := by
  intro i a b ha hb e
  obtain ⟨h1, h2⟩ := List.getElem?_eq_some_iff.mp ha
  obtain ⟨h3, h4⟩ := List.getElem?_eq_some_iff.mp hb
  have := List.pairwise_iff_getElem.mp h i (i + 1) h1 h3 (by omega)
  rw [h2, h4, e] at this
  exact List.lt_irrefl _ this
theorem mgL_filter : ∀ (n : Nat) (xs ys : List (List Nat)), xs.length + ys.length = n → Rise xs → Rise ys → mgL xs ys = (xs.filter fun x => !decide (x ∈ ys), ys.filter fun y => !decide (y ∈ xs))
  | _, [], ys, _, _, _ => by rw [mgL]; exact Prod.ext rfl (List.filter_eq_self.mpr fun _ _ => rfl).symm
  | _, x :: xs, [], _, _, _ => by rw [mgL]; exact Prod.ext (List.filter_eq_self.mpr fun _ _ => rfl).symm rfl
  | n, x :: xs, y :: ys, hn, hx, hy => by
    have ⟨x1, x2⟩ := List.pairwise_cons.mp hx
    have ⟨y1, y2⟩ := List.pairwise_cons.mp hy
    rw [mgL]
    by_cases h1 : x < y
    · rw [if_pos h1]
      have ih := mgL_filter (n - 1) xs (y :: ys) (by simp at hn ⊢; omega) x2 hy
      rw [ih]
      have hne : x ∉ y :: ys := fun hm => by
        rcases List.mem_cons.mp hm with e | hm
        · exact List.lt_irrefl _ (e ▸ h1)
        · exact List.lt_irrefl _ (List.lt_trans h1 (y1 x hm))
      have e1 : (x :: xs).filter (fun z => !decide (z ∈ y :: ys)) = x :: xs.filter (fun z => !decide (z ∈ y :: ys)) := List.filter_cons_of_pos (by simpa using hne)
      rw [e1]
      congr 1
      apply List.filter_congr
      intro z hz
      have : z ≠ x := fun e => hne (e ▸ hz)
      simp [this]
    · rw [if_neg h1]
      by_cases h2 : y < x
      · rw [if_pos h2]
        have ih := mgL_filter (n - 1) (x :: xs) ys (by simp at hn ⊢; omega) hx y2
        rw [ih]
        have hne : y ∉ x :: xs := fun hm => by
          rcases List.mem_cons.mp hm with e | hm
          · exact List.lt_irrefl _ (e ▸ h2)
          · exact List.lt_irrefl _ (List.lt_trans h2 (x1 y hm))
        have e1 : (y :: ys).filter (fun z => !decide (z ∈ x :: xs)) = y :: ys.filter (fun z => !decide (z ∈ x :: xs)) := List.filter_cons_of_pos (by simpa using hne)
        rw [e1]
        congr 1
        apply List.filter_congr
        intro z hz
        have : z ≠ y := fun e => hne (e ▸ hz)
        simp [this]
      · rw [if_neg h2]
        have hxy : x = y := List.le_antisymm (List.not_lt.mp h2) (List.not_lt.mp h1)
        subst hxy
        have ih := mgL_filter (n - 2) xs ys (by simp at hn; omega) x2 y2
        rw [ih]
        have nx : ∀ z ∈ xs, z ≠ x := fun z hz e => List.lt_irrefl _ (e ▸ x1 z hz)
        have ny : ∀ z ∈ ys, z ≠ x := fun z hz e => List.lt_irrefl _ (e ▸ y1 z hz)
        rw [List.filter_cons_of_neg (by simp), List.filter_cons_of_neg (by simp)]
        congr 1
        · apply List.filter_congr
          intro z hz
          simp [nx z hz]
        · apply List.filter_congr
          intro z hz
          simp [ny z hz]
theorem look_append {fs gs : List (List Nat × List Nat)} {k : List Nat} : look (fs ++ gs) k = (look fs k).or (look gs k) := by
  unfold look
  rw [List.find?_append]
  cases List.find? (fun p => decide (p.1 = k)) fs <;> rfl
theorem look_one {k k' x : List Nat} : look [(k, x)] k' = if k = k' then some x else none := by
  unfold look
  by_cases e : k = k'
  · rw [if_pos e, List.find?_cons_of_pos (by simpa using e)]; rfl
  · rw [if_neg e, List.find?_cons_of_neg (by simpa using e)]; rfl
theorem look_keys {fs : List (List Nat × List Nat)} {k : List Nat} : look fs k ≠ none ↔ k ∈ fs.map (·.1) := by
  induction fs with
  | nil => simp [look]
  | cons a r ih =>
    rw [show a :: r = [a] ++ r from rfl, look_append, show [a] = [(a.1, a.2)] from rfl, look_one]
    by_cases e : a.1 = k
    · simp [e]
    · rw [if_neg e, Option.none_or, ih]; simp [Ne.symm e]
theorem put_all {P : List Nat → List Nat → Prop} {fs : List (List Nat × List Nat)} (h : ∀ k x, look fs k = some x → P k x) {k0 x0 : List Nat} (h0 : P k0 x0) : ∀ k x, look (fs ++ [(k0, x0)]) k = some x → P k x := by
  intro k x hk
  rw [look_append, look_one] at hk
  cases q : look fs k with
  | some y => rw [q] at hk; cases hk; exact h _ _ q
  | none =>
    rw [q, Option.none_or] at hk
    by_cases e : k0 = k
    · rw [if_pos e] at hk; cases hk; exact e ▸ h0
    · rw [if_neg e] at hk; cases hk
theorem look_mono {fs gs : List (List Nat × List Nat)} {k : List Nat} (h : look fs k ≠ none) : look (fs ++ gs) k ≠ none := by
  rw [look_append]
  cases q : look fs k with
  | some y => simp
  | none => exact absurd q h
section
variable {R Y : List Nat → List Nat → List Nat}
theorem step2_all {P : List Nat → List Nat → Prop} {msg wd : List Nat} {fs : List (List Nat × List Nat)} {c : List Nat} (h : ∀ k x, look fs k = some x → P k x) (h1 : R wd c ≠ [] → P (R wd c) (Y msg (R wd c))) (h2 : R c wd ≠ [] → P (R c wd) msg) :
    ∀ k x, look (step2 R Y msg wd fs c) k = some x → P k x := by
  unfold step2
  dsimp only
  have ha : ∀ k x, look (if R wd c ≠ [] ∧ look fs (R wd c) = none then fs ++ [(R wd c, Y msg (R wd c))] else fs) k = some x → P k x := by
    split
    · rename_i q; exact put_all h (h1 q.1)
    · exact h
  generalize (if R wd c ≠ [] ∧ look fs (R wd c) = none then fs ++ [(R wd c, Y msg (R wd c))] else fs) = f1 at *
  split
  · rename_i q; exact put_all ha (h2 q.1)
  · exact ha
theorem step2_has {msg wd : List Nat} {fs : List (List Nat × List Nat)} {c : List Nat} : (∀ k, look fs k ≠ none → look (step2 R Y msg wd fs c) k ≠ none) ∧ (R wd c ≠ [] → look (step2 R Y msg wd fs c) (R wd c) ≠ none) ∧ (R c wd ≠ [] → look (step2 R Y msg wd fs c) (R c wd) ≠ none) := by
  unfold step2
  dsimp only
  have m1 : ∀ k, look fs k ≠ none → look (if R wd c ≠ [] ∧ look fs (R wd c) = none then fs ++ [(R wd c, Y msg (R wd c))] else fs) k ≠ none := by
    intro k hk; split
    · exact look_mono hk
    · exact hk
  have m2 : R wd c ≠ [] → look (if R wd c ≠ [] ∧ look fs (R wd c) = none then fs ++ [(R wd c, Y msg (R wd c))] else fs) (R wd c) ≠ none := by
    intro hne; split
    · rw [look_append, look_one, if_pos rfl]; cases look fs (R wd c) <;> simp
    · rename_i q; exact fun e => q ⟨hne, e⟩
  generalize (if R wd c ≠ [] ∧ look fs (R wd c) = none then fs ++ [(R wd c, Y msg (R wd c))] else fs) = f1 at *
  refine ⟨fun k hk => ?_, fun hne => ?_, fun hne => ?_⟩
  · split
    · exact look_mono (m1 k hk)
    · exact m1 k hk
  · split
    · exact look_mono (m2 hne)
    · exact m2 hne
  · split
    · rw [look_append, look_one, if_pos rfl]; cases look f1 (R c wd) <;> simp
    · rename_i q; exact fun e => q ⟨hne, e⟩
theorem fold2_all {P : List Nat → List Nat → Prop} {msg wd : List Nat} : ∀ (code : List (List Nat)) (fs : List (List Nat × List Nat)), (∀ k x, look fs k = some x → P k x) → (∀ c ∈ code, R wd c ≠ [] → P (R wd c) (Y msg (R wd c))) → (∀ c ∈ code, R c wd ≠ [] → P (R c wd) msg) →
    ∀ k x, look (code.foldl (step2 R Y msg wd) fs) k = some x → P k x
  | [], _, h, _, _ => h
  | c :: code, fs, h, h1, h2 => fold2_all code _ (step2_all h (h1 c List.mem_cons_self) (h2 c List.mem_cons_self)) (fun c hc => h1 c (List.mem_cons_of_mem _ hc)) fun c hc => h2 c (List.mem_cons_of_mem _ hc)
theorem fold2_has {msg wd : List Nat} : ∀ (code : List (List Nat)) (fs : List (List Nat × List Nat)), (∀ k, look fs k ≠ none → look (code.foldl (step2 R Y msg wd) fs) k ≠ none) ∧ ∀ c ∈ code, (R wd c ≠ [] → look (code.foldl (step2 R Y msg wd) fs) (R wd c) ≠ none) ∧ (R c wd ≠ [] → look (code.foldl (step2 R Y msg wd) fs) (R c wd) ≠ none)
  | [], _ => ⟨fun _ h => h, fun _ h => nomatch h⟩
  | c :: code, fs => by
    obtain ⟨a1, a2⟩ := fold2_has (msg := msg) (wd := wd) code (step2 R Y msg wd fs c)
    obtain ⟨b1, b2, b3⟩ := step2_has (R := R) (Y := Y) (msg := msg) (wd := wd) (fs := fs) (c := c)
    refine ⟨fun k hk => a1 k (b1 k hk), fun d hd => ?_⟩
    rcases List.mem_cons.mp hd with rfl | hd
    · exact ⟨fun h => a1 _ (b2 h), fun h => a1 _ (b3 h)⟩
    · exact a2 d hd
theorem fold1_all {P : List Nat → List Nat → Prop} {code : List (List Nat)} {ms : List (List Nat × List Nat)} : ∀ (l : List (List Nat)) (fs : List (List Nat × List Nat)), (∀ k x, look fs k = some x → P k x) → (∀ wd ∈ l, ∃ m, look ms wd = some m ∧ ∀ c ∈ code, (R wd c ≠ [] → P (R wd c) (Y m (R wd c))) ∧ (R c wd ≠ [] → P (R c wd) m)) →
    ∀ k x, look (l.foldl (step1 R Y code ms) fs) k = some x → P k x
  | [], _, h, _ => h
  | wd :: l, fs, h, h1 => by
    obtain ⟨m, e, h2⟩ := h1 wd List.mem_cons_self
    refine fold1_all l _ ?_ fun wd hw => h1 wd (List.mem_cons_of_mem _ hw)
    unfold step1
    rw [e]
    exact fold2_all code fs h (fun c hc => (h2 c hc).1) fun c hc => (h2 c hc).2
theorem fold1_has {code : List (List Nat)} {ms : List (List Nat × List Nat)} : ∀ (l : List (List Nat)) (fs : List (List Nat × List Nat)), (∀ k, look fs k ≠ none → look (l.foldl (step1 R Y code ms) fs) k ≠ none) ∧ ∀ wd ∈ l, ∀ c ∈ code, (R wd c ≠ [] → look (l.foldl (step1 R Y code ms) fs) (R wd c) ≠ none) ∧ (R c wd ≠ [] → look (l.foldl (step1 R Y code ms) fs) (R c wd) ≠ none)
  | [], _ => ⟨fun _ h => h, fun _ h => nomatch h⟩
  | wd :: l, fs => by
    obtain ⟨a1, a2⟩ := fold1_has (code := code) (ms := ms) l (step1 R Y code ms fs wd)
    obtain ⟨b1, b2⟩ := fold2_has (R := R) (Y := Y) (msg := (look ms wd).getD []) (wd := wd) code fs
    refine ⟨fun k hk => a1 k (b1 k hk), fun d hd c hc => ?_⟩
    rcases List.mem_cons.mp hd with rfl | hd
    · exact ⟨fun h => a1 _ ((b2 c hc).1 h), fun h => a1 _ ((b2 c hc).2 h)⟩
    · exact a2 d hd c hc
end
end S_Pl
section S_Pl2
noncomputable def step0 (R : List Nat → List Nat → List Nat) (one : List Nat) (found : List (List Nat × List Nat)) (other : List Nat) : List (List Nat × List Nat) :=
  if R one other ≠ [] ∧ look found (R one other) = none then found ++ [(R one other, other)] else found
noncomputable def firstL (R : List Nat → List Nat → List Nat) (code : List (List Nat)) (found : List (List Nat × List Nat)) (one : List Nat) : List (List Nat × List Nat) := code.foldl (step0 R one) found
theorem fold0_len (R : List Nat → List Nat → List Nat) (one : List Nat) : ∀ (l : List (List Nat)) (found : List (List Nat × List Nat)), (l.foldl (step0 R one) found).length ≤ found.length + l.length
  | [], _ => Nat.le_refl _
  | a :: l, found => by
    have h1 := fold0_len R one l (step0 R one found a)
    have h2 : (step0 R one found a).length ≤ found.length + 1 := by unfold step0; split <;> simp
    rw [List.foldl_cons, List.length_cons]
    omega
theorem foldF_len (R : List Nat → List Nat → List Nat) (code : List (List Nat)) : ∀ (l : List (List Nat)) (found : List (List Nat × List Nat)), (l.foldl (firstL R code) found).length ≤ found.length + code.length * l.length
  | [], _ => Nat.le_refl _
  | a :: l, found => by
    have h1 := foldF_len R code l (firstL R code found a)
    have h2 := fold0_len R a code found
    rw [List.foldl_cons, List.length_cons, Nat.mul_add]
    unfold firstL at h1 ⊢
    omega
noncomputable def ClosedS (R : List Nat → List Nat → List Nat) (code : List (List Nat)) (S : List Nat → Prop) : Prop :=
  (∀ a ∈ code, ∀ b ∈ code, R a b ≠ [] → S (R a b)) ∧ ∀ wd, S wd → ∀ c ∈ code, (R wd c ≠ [] → S (R wd c)) ∧ (R c wd ≠ [] → S (R c wd))
section
variable {R Y : List Nat → List Nat → List Nat} {code U : List (List Nat)} {Dg : Nat → List Nat → List Nat → Prop}
theorem fold0_all {P : List Nat → List Nat → Prop} {one : List Nat} : ∀ (l : List (List Nat)) (fs : List (List Nat × List Nat)), (∀ k x, look fs k = some x → P k x) → (∀ b ∈ l, R one b ≠ [] → P (R one b) b) → ∀ k x, look (l.foldl (step0 R one) fs) k = some x → P k x
  | [], _, h, _ => h
  | b :: l, fs, h, h1 => by
    refine fold0_all l _ ?_ fun b hb => h1 b (List.mem_cons_of_mem _ hb)
    unfold step0
    split
    · rename_i q; exact put_all h (h1 b List.mem_cons_self q.1)
    · exact h
theorem fold0_has {one : List Nat} : ∀ (l : List (List Nat)) (fs : List (List Nat × List Nat)), (∀ k, look fs k ≠ none → look (l.foldl (step0 R one) fs) k ≠ none) ∧ ∀ b ∈ l, R one b ≠ [] → look (l.foldl (step0 R one) fs) (R one b) ≠ none
  | [], _ => ⟨fun _ h => h, fun _ h => nomatch h⟩
  | b :: l, fs => by
    obtain ⟨a1, a2⟩ := fold0_has l (step0 R one fs b)
    have b1 : ∀ k, look fs k ≠ none → look (step0 R one fs b) k ≠ none := by
      intro k hk; unfold step0; split
      · exact look_mono hk
      · exact hk
    refine ⟨fun k hk => a1 k (b1 k hk), fun d hd hne => ?_⟩
    rcases List.mem_cons.mp hd with rfl | hd
    · refine a1 _ ?_
      unfold step0
      split
      · rw [look_append, look_one, if_pos rfl]; cases look fs (R one d) <;> simp
      · rename_i q; exact fun e => q ⟨hne, e⟩
    · exact a2 d hd hne
theorem foldF_all {P : List Nat → List Nat → Prop} : ∀ (l : List (List Nat)) (fs : List (List Nat × List Nat)), (∀ k x, look fs k = some x → P k x) → (∀ a ∈ l, ∀ b ∈ code, R a b ≠ [] → P (R a b) b) → ∀ k x, look (l.foldl (firstL R code) fs) k = some x → P k x
  | [], _, h, _ => h
  | a :: l, fs, h, h1 => foldF_all l _ (fold0_all code fs h (h1 a List.mem_cons_self)) fun a ha => h1 a (List.mem_cons_of_mem _ ha)
theorem foldF_has : ∀ (l : List (List Nat)) (fs : List (List Nat × List Nat)), (∀ k, look fs k ≠ none → look (l.foldl (firstL R code) fs) k ≠ none) ∧ ∀ a ∈ l, ∀ b ∈ code, R a b ≠ [] → look (l.foldl (firstL R code) fs) (R a b) ≠ none
  | [], _ => ⟨fun _ h => h, fun _ h => nomatch h⟩
  | a :: l, fs => by
    obtain ⟨a1, a2⟩ := foldF_has l (firstL R code fs a)
    obtain ⟨b1, b2⟩ := fold0_has (R := R) (one := a) code fs
    refine ⟨fun k hk => a1 k (b1 k hk), fun d hd c hc hne => ?_⟩
    rcases List.mem_cons.mp hd with rfl | hd
    · exact a1 _ (b2 c hc hne)
    · exact a2 d hd c hc hne
structure RF (R : List Nat → List Nat → List Nat) (code U : List (List Nat)) (Dg : Nat → List Nat → List Nat → Prop) (t : Nat) (ms : List (List Nat × List Nat)) (sn : List (List Nat)) (fs : List (List Nat × List Nat)) : Prop where
  msg : ∀ k x, look ms k = some x → k ∈ U ∧ Dg t k x
  keys : ∀ k, look ms k ≠ none ↔ k ∈ sn
  rise : Rise sn
  nodup : sn.Nodup
  found : ∀ k x, look fs k = some x → k ∈ U ∧ Dg t k x
  first : ∀ a ∈ code, ∀ b ∈ code, R a b ≠ [] → R a b ∈ sn ∨ look fs (R a b) ≠ none
  more : ∀ wd ∈ sn, ∀ c ∈ code, (R wd c ≠ [] → R wd c ∈ sn ∨ look fs (R wd c) ≠ none) ∧ (R c wd ≠ [] → R c wd ∈ sn ∨ look fs (R c wd) ≠ none)
  count : fs ≠ [] → t ≤ sn.length
theorem look_nil_iff {fs : List (List Nat × List Nat)} : fs = [] ↔ ∀ k, look fs k = none := by
  constructor
  · rintro rfl k; rfl
  · intro h
    cases fs with
    | nil => rfl
    | cons a r => exact absurd (h a.1) (look_keys.mpr (by simp))
theorem RF.inU {t : Nat} {ms : List (List Nat × List Nat)} {sn : List (List Nat)} {fs : List (List Nat × List Nat)} (h : RF R code U Dg t ms sn fs) : ∀ wd ∈ sn, wd ∈ U := fun wd hw => by
  obtain ⟨x, e⟩ := Option.ne_none_iff_exists'.mp ((h.keys wd).mpr hw)
  exact (h.msg _ _ e).1
theorem RF.short {t : Nat} {ms : List (List Nat × List Nat)} {sn : List (List Nat)} {fs : List (List Nat × List Nat)} (h : RF R code U Dg t ms sn fs) : sn.length ≤ U.length := nodup_len h.nodup h.inU
theorem RF.init (h : ∀ a ∈ code, ∀ b ∈ code, R a b ≠ [] → R a b ∈ U ∧ Dg 0 (R a b) b) : RF R code U Dg 0 [] [] (code.foldl (firstL R code) []) where
  msg := fun _ _ h => nomatch h
  keys := fun k => by simp [look]
  rise := .nil
  nodup := .nil
  found := foldF_all (P := fun k x => k ∈ U ∧ Dg 0 k x) code [] (fun _ _ h => nomatch h) h
  first := fun a ha b hb hne => .inr ((foldF_has code []).2 a ha b hb hne)
  more := fun _ h => nomatch h
  count := fun _ => Nat.zero_le _
noncomputable def putL (fs : List (List Nat × List Nat)) (ms : List (List Nat × List Nat)) (wd : List Nat) : List (List Nat × List Nat) := ms ++ [(wd, (look fs wd).getD [])]
theorem put_look {fs : List (List Nat × List Nat)} : ∀ (l : List (List Nat)) (ms : List (List Nat × List Nat)) (k : List Nat), look (l.foldl (putL fs) ms) k = (look ms k).or (if k ∈ l then some ((look fs k).getD []) else none)
  | [], ms, k => by simp
  | a :: l, ms, k => by
    rw [List.foldl_cons, put_look l, putL, look_append, look_one]
    by_cases e : a = k
    · subst e
      simp only [if_true, List.mem_cons, true_or]
      cases look ms a <;> rfl
    · rw [if_neg e, Option.or_none]
      have : k ∈ a :: l ↔ k ∈ l := by simp [Ne.symm e]
      simp only [this]
theorem RF.next {t : Nat} {ms : List (List Nat × List Nat)} {sn nw sn' : List (List Nat)} {fs : List (List Nat × List Nat)} (h : RF R code U Dg t ms sn fs) (hnw : nw.Perm (fs.map (·.1))) (hnd : (fs.map (·.1)).Nodup) (hsn : sn'.Perm (sn ++ nw.filter fun x => !decide (x ∈ sn))) (hri : sn'.Pairwise fun a b => ¬ b < a)
    (hst1 : ∀ n wd m c, Dg n wd m → wd ∈ U → c ∈ code → R wd c ≠ [] → R wd c ∈ U ∧ Dg (n + 1) (R wd c) (Y m (R wd c))) (hst2 : ∀ n wd m c, Dg n wd m → wd ∈ U → c ∈ code → R c wd ≠ [] → R c wd ∈ U ∧ Dg (n + 1) (R c wd) m) (hmono : ∀ n wd m, Dg n wd m → Dg (n + 1) wd m) (hfs : fs ≠ []) :
    RF R code U Dg (t + 1) ((nw.filter fun x => !decide (x ∈ sn)).foldl (putL fs) ms) sn' (restsL R Y code (nw.filter fun x => !decide (x ∈ sn)) ((nw.filter fun x => !decide (x ∈ sn)).foldl (putL fs) ms)) := by
  have hg : ∀ k, k ∈ (nw.filter fun x => !decide (x ∈ sn)) ↔ look fs k ≠ none ∧ k ∉ sn := fun k => by
    rw [List.mem_filter, hnw.mem_iff, ← look_keys]; simp
  have hin : ∀ k, k ∈ sn' ↔ k ∈ sn ∨ look fs k ≠ none := fun k => by
    rw [hsn.mem_iff, List.mem_append, hg]
    by_cases q : k ∈ sn <;> simp [q]
  have hndn : (nw.filter fun x => !decide (x ∈ sn)).Nodup := (hnw.nodup_iff.mpr hnd).filter _
  have hnd' : sn'.Nodup := hsn.nodup_iff.mpr (List.nodup_append.mpr ⟨h.nodup, hndn, fun a ha b hb e => ((hg b).mp hb).2 (e ▸ ha)⟩)
  have hmsg : ∀ k x, look ((nw.filter fun x => !decide (x ∈ sn)).foldl (putL fs) ms) k = some x → k ∈ U ∧ Dg t k x := by
    intro k x hk
    rw [put_look] at hk
    cases q : look ms k with
    | some y => rw [q] at hk; cases hk; exact h.msg _ _ q
    | none =>
      rw [q, Option.none_or] at hk
      by_cases e : k ∈ (nw.filter fun x => !decide (x ∈ sn))
      · rw [if_pos e] at hk
        obtain ⟨y, hy⟩ := Option.ne_none_iff_exists'.mp ((hg k).mp e).1
        rw [hy] at hk; cases hk
        exact h.found _ _ hy
      · rw [if_neg e] at hk; cases hk
  have hgm : ∀ k ∈ (nw.filter fun x => !decide (x ∈ sn)), ∃ m, look ((nw.filter fun x => !decide (x ∈ sn)).foldl (putL fs) ms) k = some m := fun k hk => by
    rw [put_look, if_pos hk]
    cases look ms k with
    | some y => exact ⟨y, rfl⟩
    | none => exact ⟨_, rfl⟩
  refine ⟨fun k x hk => ⟨(hmsg k x hk).1, hmono _ _ _ (hmsg k x hk).2⟩, fun k => ?_, rise_of hri hnd', hnd', ?_, fun a ha b hb hne => .inl ((hin _).mpr (h.first a ha b hb hne)), fun wd hw c hc => ?_, fun hne => ?_⟩
  · rw [put_look, hin]
    constructor
    · intro hk
      by_cases q : k ∈ sn
      · exact .inl q
      · have q' : look ms k = none := Decidable.not_not.mp fun e => q ((h.keys k).mp e)
        rw [q', Option.none_or] at hk
        by_cases e : k ∈ (nw.filter fun x => !decide (x ∈ sn))
        · exact .inr ((hg k).mp e).1
        · rw [if_neg e] at hk; exact absurd rfl hk
    · rintro (hk | hk)
      · obtain ⟨x, e⟩ := Option.ne_none_iff_exists'.mp ((h.keys k).mpr hk)
        rw [e]; simp
      · by_cases q : k ∈ sn
        · obtain ⟨x, e⟩ := Option.ne_none_iff_exists'.mp ((h.keys k).mpr q)
          rw [e]; simp
        · rw [if_pos ((hg k).mpr ⟨hk, q⟩)]
          cases look ms k <;> simp
  · refine fold1_all (P := fun k x => k ∈ U ∧ Dg (t + 1) k x) _ [] (fun _ _ h => nomatch h) fun wd hw => ?_
    obtain ⟨m, hm⟩ := hgm wd hw
    have := hmsg wd m hm
    exact ⟨m, hm, fun c hc => ⟨hst1 _ _ _ _ this.2 this.1 hc, hst2 _ _ _ _ this.2 this.1 hc⟩⟩
  · rcases (hin wd).mp hw with q | q
    · have := h.more wd q c hc
      exact ⟨fun e => .inl ((hin _).mpr (this.1 e)), fun e => .inl ((hin _).mpr (this.2 e))⟩
    · by_cases q2 : wd ∈ sn
      · have := h.more wd q2 c hc
        exact ⟨fun e => .inl ((hin _).mpr (this.1 e)), fun e => .inl ((hin _).mpr (this.2 e))⟩
      · have := (fold1_has (R := R) (Y := Y) (code := code) (ms := (nw.filter fun x => !decide (x ∈ sn)).foldl (putL fs) ms) (nw.filter fun x => !decide (x ∈ sn)) []).2 wd ((hg wd).mpr ⟨q, q2⟩) c hc
        exact ⟨fun e => .inr (this.1 e), fun e => .inr (this.2 e)⟩
  · have hgne : (nw.filter fun x => !decide (x ∈ sn)) ≠ [] := fun e => hne (by rw [e]; rfl)
    have h1 := h.count hfs
    have h2 := hsn.length_eq
    rw [List.length_append] at h2
    have h3 : 0 < (nw.filter fun x => !decide (x ∈ sn)).length := List.length_pos_iff.mpr hgne
    omega
theorem RF.closed {t : Nat} {ms : List (List Nat × List Nat)} {sn : List (List Nat)} (h : RF R code U Dg t ms sn []) : ClosedS R code (fun k => k ∈ sn) :=
  ⟨fun a ha b hb hne => (h.first a ha b hb hne).elim id fun e => absurd rfl e, fun wd hw c hc => ⟨fun hne => ((h.more wd hw c hc).1 hne).elim id fun e => absurd rfl e, fun hne => ((h.more wd hw c hc).2 hne).elim id fun e => absurd rfl e⟩⟩
end
theorem all_cons {α : Type} {P : α → Prop} {a : α} {l : List α} (h : P a) (t : ∀ x ∈ l, P x) : ∀ x ∈ a :: l, P x := fun x hx => (List.mem_cons.mp hx).elim (fun e => e ▸ h) (t x)
end S_Pl2
example : True := by
  k_with "truthy ref" => ((refine' wpAny_truthy_dict (knd := PySem.strKind _ _) ?k1 ?k2 ?k3 ?_; (case k1 => assumption); (case k2 => exact kda_dict (by k_asm) (by k_mem) (by assumption)); (case k3 => k_extra "om")))
  k_with "compareOp NotIn str ref" => (((fail_if_success (with_reducible show wpAny _ _ (compareOp _ (Value.str (tx (_ : List Nat)) _) _) _ _ _)); refine Stop.mk ?_))
  trivial
local macro_rules | `(tactic| walk_at $s:str) => if s.getString ∈ ["eval ListComp", "exec Assign cons ListComp"] then `(tactic| (refine Stop.mk ?_)) else Lean.Macro.throwUnsupported
example : True := by
  k_with "binaryOp Add ref ref" => ((refine' kmk_add_lit ?k1 ?k2 ?k3 ?k4 ?k5 ?_ ?k6; (case k1 => k_asm); (case k2 => k_asm); (case k3 => exact isList_of (by k_asm) (by k_mem)); (case k4 => exact isList_of (by k_asm) (by k_mem)); (case k5 => rfl); (case k6 => exact le_sizeLine (by first | k_extra "om" | (simp only [List.length_append]; k_extra "om"))); (walk_at "l5")))
  k_with "call type:list" => ((refine' kup_listOf ?k1 ?k2 ?k3 ?k4 ?_ ?k6; (case k1 => k_asm); (case k2 => k_asm); (case k3 => k_mem); (case k4 => rfl); (case k6 => exact le_sizeLine (by first | k_extra "om" | (simp only [List.length_append]; k_extra "om"))); (walk_at "l6")))
  trivial
local macro_rules | `(tactic| walk_at $s:str) => if s.getString ∈ ["compareOp NotEq ref ref", "call builtin:sorted", "compareOp In str ref", "CompSrcT"] then `(tactic| (refine Stop.mk ?_)) else Lean.Macro.throwUnsupported
section S_FRo
local macro_rules | `(tactic| walk_at "no rule") => `(tactic| skip)
local macro_rules | `(tactic| walk_at "call ref") => `(tactic| (refine Stop.mk ?_))
local macro_rules | `(tactic| walk_at "truthy str") => `(tactic| (refine' truthy_tx ?k1 ?k2 ?_; (case k1 => omega); (case k2 => assumption); intro _))
example : True := by
  trivial
theorem tup0 {prog : Program} {w : World} {A : Around} {E : Value → Shared → Prop} {s : Shared} {h₀ : Heap} {L : Addr} {news : Led} {value slice : Expr} {T a b : Addr} {u : Tok} {Q : Value → Shared → Prop} (N : News h₀ L s.heap news) (hm : (T, ({ cls := .type "tuple", data := .seq #[.ref a, .ref b] } : Obj)) ∈ news) (h : Q (.ref a) s)
    (hs : subscripted slice false (.ref T) (.int 0 u) = operate [.ref T, .int 0 u] (getItem (.ref T) (.int 0 u)) := by with_unfolding_all rfl) : wpAny (model prog w) A (subscriptTail value slice (.ref T) (.int 0 u)) Q E s :=
  item_tupleT (l := [.ref a, .ref b]) ⟨_, (N _ hm).1, rfl, _, rfl⟩ (by decide) (by decide) (j := 0) (by rfl) rfl h hs
example : True := by
  k_with "subscriptTail" => (((with_reducible show wpAny _ _ (subscriptTail _ _ (Value.ref _) (Value.int 0 _)) _ _ _); refine' tup0 ?k1 ?k2 ?_; (case k1 => k_asm); (case k2 => k_mem)))
  trivial
theorem off1_mem {D : Addr} : ∀ {l : Led}, PyProof.Rows.LCg.Off1 D l → ∀ p ∈ l, p.1 ≠ D
  | [], _, _, h => nomatch h
  | _ :: _, ⟨h1, h2⟩, p, h => (List.mem_cons.mp h).elim (fun e => by rw [e]; exact h1) (fun h => off1_mem h2 p h)
inductive RJ (w : World) (R : List Nat → List Nat → List Nat) (code U : List (List Nat)) (Dg : Nat → List Nat → List Nat → Prop) (Inv : Nat → Led → Prop) (f g dm L' : Addr) (oC : Obj) (own : Led) (kb : Nat) (z : Prop) (t : Nat) (m' : PySem.Str → Option Value) (led : Led) : Prop
  | mk (w1 : m' (PySem.Str.ofString "rest") = some (.ref f)) (w2 : m' (PySem.Str.ofString "lay") = some (.ref g)) (ms : List (List Nat × List Nat)) (mkv : List (PySem.Str × Value)) (om : Obj) (sn : List (List Nat)) (sv : List Value) (scap : Nat) (fs : List (List Nat × List Nat)) (fkv : List (PySem.Str × Value)) (of : Obj) (lsA dfA : Addr) (b : Led) (k : Nat) (oM oS oF : Obj)
    (e1 : om.IsDictOf (PySem.strKind P0 w) mkv) (e2 : DV ms mkv) (e3 : F2 TxtV sn sv) (e4 : of.IsDictOf (PySem.strKind P0 w) fkv) (e5 : DV fs fkv) (e6 : oF.data = .cell (some (.ref dfA))) (e7 : oS.data = .cell (some (.ref lsA))) (e8 : oM.data = .cell (some (.ref dm)))
    (ez : z → fs = []) (e9 : RF R code U Dg t ms sn fs) (e10 : Inv k b) (e11 : k ≤ kb + 9 + 36 * t) (e12 : @LT.lt Nat _ dm lsA) (e13 : @LT.lt Nat _ lsA dfA) (e14 : (dfA == sysModules) = false)
    (e15 : Apart ((dfA, of) :: (lsA, W.listOf sv.toArray scap) :: (dm, om) :: (L' + 1 + 1 + 1 + 1, oF) :: (L' + 1 + 1 + 1, oS) :: (L' + 1 + 1, oM) :: (L' + 1, oC) :: own) b)
    (e16 : led = (dfA, of) :: (lsA, W.listOf sv.toArray scap) :: (dm, om) :: (L' + 1 + 1 + 1 + 1, oF) :: (L' + 1 + 1 + 1, oS) :: (L' + 1 + 1, oM) :: (L' + 1, oC) :: (own ++ b)) : RJ w R code U Dg Inv f g dm L' oC own kb z t m' led
inductive RJ1 (w : World) (R : List Nat → List Nat → List Nat) (code : List (List Nat)) (Inv : Nat → Led → Prop) (kb : Nat) (df : Addr) (own2 : Led) (m0 : PySem.Str → Option Value) (i : Nat) (m' : PySem.Str → Option Value) (n' : Led) : Prop
  | mk (hk : KeptK [PySem.Str.ofString "one", PySem.Str.ofString "other", PySem.Str.ofString "left"] m0 m') (o' : Obj) (kvs : List (PySem.Str × Value)) (b' : Led) (k' : Nat) (g1 : o'.IsDictOf (PySem.strKind P0 w) kvs) (g2 : DV ((code.take i).foldl (firstL R code) []) kvs) (g3 : Inv k' b') (g4 : k' ≤ kb + 3 * i) (g5 : Apart ((df, o') :: own2) b') (g6 : n' = (df, o') :: (own2 ++ b')) : RJ1 w R code Inv kb df own2 m0 i m' n'
inductive RJ2 (w : World) (R : List Nat → List Nat → List Nat) (code : List (List Nat)) (Inv : Nat → Led → Prop) (kb : Nat) (df : Addr) (own2 : Led) (i : Nat) (a1 : List Nat) (I : Addr) (oI : Obj) (m0 : PySem.Str → Option Value) (j : Nat) (m' : PySem.Str → Option Value) (n' : Led) : Prop
  | mk (hk : KeptK [PySem.Str.ofString "other", PySem.Str.ofString "left"] m0 m') (o2 : Obj) (kvs2 : List (PySem.Str × Value)) (b2 : Led) (k2 : Nat) (g1 : o2.IsDictOf (PySem.strKind P0 w) kvs2) (g2 : DV ((code.take j).foldl (step0 R a1) ((code.take i).foldl (firstL R code) [])) kvs2) (g3 : Inv k2 b2) (g4 : k2 ≤ kb + 3 * i + j) (g5 : Apart ((I, oI) :: (df, o2) :: own2) b2) (g6 : n' = (I, oI) :: (df, o2) :: (own2 ++ b2)) : RJ2 w R code Inv kb df own2 i a1 I oI m0 j m' n'
inductive RoundsP (R : List Nat → List Nat → List Nat) (code : List (List Nat)) (Dg : Nat → List Nat → List Nat → Prop) (Inv : Nat → Led → Prop) (kb : Nat) (own : Led) (r : Value) (n' : Led) : Prop
  | mk (l : Addr) (res : List (List Nat)) (rv : List Value) (cap : Nat) (bs' : Led) (k' : Nat) (z1 : r = .ref l) (z2 : F2 TxtV res rv) (z3 : Inv k' bs') (z4 : k' ≤ kb + 1000) (z5 : Apart ((l, W.listOf rv.toArray cap) :: own) bs') (z6 : ∀ p ∈ own, p.1 ≠ l) (z7 : n' = (l, W.listOf rv.toArray cap) :: (own ++ bs'))
    (z8 : ∀ m ∈ res, ∃ n wd, n ≤ 8 ∧ wd ∈ code ∧ Dg n wd m) (z9 : res = [] → ∃ S, ClosedS R code S ∧ ∀ wd ∈ code, ¬ S wd) (z10 : res.length ≤ 6) : RoundsP R code Dg Inv kb own r n'
namespace Krounds
abbrev Par : Type := (World) × (Addr) × (Addr) × (Value) × (Option Addr) × (FuncData) × (Array (Option Value)) × (Obj) × (List Nat → List Nat → List Nat) × (List Nat → List Nat → List Nat) × (List Nat → List Nat → Prop) × (Nat → Led → Prop) × (Led) × (Addr) × (Nat) × (List (List Nat)) × (List Value) × (Led) × (Led) × (Nat) × (List (List Nat)) × (Nat → List Nat → List Nat → Prop) × (Program) × (List PySem.Str) × (ExcName → Option Value) × (PySem.Str → Option Value) × (PySem.Str → Option Value) × (Nat) × (Nat) × (Option (List Code)) × (PySem.Str) × (Scope) × (Addr) × (Value) × (List (PySem.Str × Addr)) × (List Env) × (Around) × (Heap) × (Heap) × (Addr) × (PySem.Str → Option Value) × (Shared) × (Value → Shared → Prop) × (Value → Shared → Prop)
theorem ne : Nonempty Par := ⟨by refine ⟨?_, ?_, ?_, ?_, ?_, ?_, ?_, ?_, ?_, ?_, ?_, ?_, ?_, ?_, ?_, ?_, ?_, ?_, ?_, ?_, ?_, ?_, ?_, ?_, ?_, ?_, ?_, ?_, ?_, ?_, ?_, ?_, ?_, ?_, ?_, ?_, ?_, ?_, ?_, ?_, ?_, ?_, ?_, ?_⟩ <;> first | exact W0 | exact default | exact {} | exact FD0⟩
noncomputable def Goal : Par → Prop := fun e0 => (fun (w : World) (f : Addr) (g : Addr) (foc : Value) (fod : Option Addr) (ffd : FuncData) (fsl : Array (Option Value)) (og : Obj) (R : List Nat → List Nat → List Nat) (Y : List Nat → List Nat → List Nat) (Dm : List Nat → List Nat → Prop) (Inv : Nat → Led → Prop) (need : Led) (lc : Addr) (cc : Nat) (code : List (List Nat)) (cvs : List Value) (own : Led) (bs : Led) (kb : Nat) (U : List (List Nat)) (Dg : Nat → List Nat → List Nat → Prop) (p : Program) (loose : List PySem.Str) (mean : ExcName → Option Value) (mg : PySem.Str → Option Value) (mb : PySem.Str → Option Value) (dp : Nat) (un : Nat) (gd : Option (List Code)) (cn : PySem.Str) (cs : Scope) (a : Addr) (ccd : Value) (cl : List (PySem.Str × Addr)) (outer : List Env) (A₀ : Around) (base : Heap) (h₀ : Heap) (L : Addr) (m : PySem.Str → Option Value) (s : Shared) (Q : Value → Shared → Prop) (E : Value → Shared → Prop) => (hR : RestC w 870 f ⟨foc, fod, .func ffd, fsl⟩ R Dm Inv) → (hY : LayC w 870 g og Y need) → (hc : (lc, W.listOf cvs.toArray cc) ∈ own) → (hcv : F2 TxtV code cvs) → (hcl : code.length ≤ 3) → (hU : U.length ≤ 6) → (hinit : ∀ a ∈ code, ∀ b ∈ code, R a b ≠ [] → R a b ∈ U ∧ Dg 0 (R a b) b) → (hst1 : ∀ n wd m c, Dg n wd m → wd ∈ U → c ∈ code → R wd c ≠ [] → R wd c ∈ U ∧ Dg (n + 1) (R wd c) (Y m (R wd c))) → (hst2 : ∀ n wd m c, Dg n wd m → wd ∈ U → c ∈ code → R c wd ≠ [] → R c wd ∈ U ∧ Dg (n + 1) (R c wd) m) → (hmono : ∀ n wd m, Dg n wd m → Dg (n + 1) wd m) → (hlen : ∀ n wd m, n ≤ 8 → Dg n wd m → m.length ≤ 200) → (hdm : ∀ a b, (a ∈ code ∨ a ∈ U) → (b ∈ code ∨ b ∈ U) → Dm a b ∧ (R a b).length ≤ 200) → (hI : Inv kb bs) → (hkb : kb + 1000 < 1000000) → (hap : Apart own bs) → (hneed : ∀ p ∈ need, p ∈ own) → FnSG w 850 159 [.ref lc, .ref f, .ref g] (own ++ bs) (RoundsP R code Dg Inv kb own) p loose mean mg mb dp un gd cn cs a ccd cl outer A₀ base h₀ L m s Q E) e0.1 e0.2.1 e0.2.2.1 e0.2.2.2.1 e0.2.2.2.2.1 e0.2.2.2.2.2.1 e0.2.2.2.2.2.2.1 e0.2.2.2.2.2.2.2.1 e0.2.2.2.2.2.2.2.2.1 e0.2.2.2.2.2.2.2.2.2.1 e0.2.2.2.2.2.2.2.2.2.2.1 e0.2.2.2.2.2.2.2.2.2.2.2.1 e0.2.2.2.2.2.2.2.2.2.2.2.2.1 e0.2.2.2.2.2.2.2.2.2.2.2.2.2.1 e0.2.2.2.2.2.2.2.2.2.2.2.2.2.2.1 e0.2.2.2.2.2.2.2.2.2.2.2.2.2.2.2.1 e0.2.2.2.2.2.2.2.2.2.2.2.2.2.2.2.2.1 e0.2.2.2.2.2.2.2.2.2.2.2.2.2.2.2.2.2.1 e0.2.2.2.2.2.2.2.2.2.2.2.2.2.2.2.2.2.2.1 e0.2.2.2.2.2.2.2.2.2.2.2.2.2.2.2.2.2.2.2.1 e0.2.2.2.2.2.2.2.2.2.2.2.2.2.2.2.2.2.2.2.2.1 e0.2.2.2.2.2.2.2.2.2.2.2.2.2.2.2.2.2.2.2.2.2.1 e0.2.2.2.2.2.2.2.2.2.2.2.2.2.2.2.2.2.2.2.2.2.2.1 e0.2.2.2.2.2.2.2.2.2.2.2.2.2.2.2.2.2.2.2.2.2.2.2.1 e0.2.2.2.2.2.2.2.2.2.2.2.2.2.2.2.2.2.2.2.2.2.2.2.2.1 e0.2.2.2.2.2.2.2.2.2.2.2.2.2.2.2.2.2.2.2.2.2.2.2.2.2.1 e0.2.2.2.2.2.2.2.2.2.2.2.2.2.2.2.2.2.2.2.2.2.2.2.2.2.2.1 e0.2.2.2.2.2.2.2.2.2.2.2.2.2.2.2.2.2.2.2.2.2.2.2.2.2.2.2.1 e0.2.2.2.2.2.2.2.2.2.2.2.2.2.2.2.2.2.2.2.2.2.2.2.2.2.2.2.2.1 e0.2.2.2.2.2.2.2.2.2.2.2.2.2.2.2.2.2.2.2.2.2.2.2.2.2.2.2.2.2.1 e0.2.2.2.2.2.2.2.2.2.2.2.2.2.2.2.2.2.2.2.2.2.2.2.2.2.2.2.2.2.2.1 e0.2.2.2.2.2.2.2.2.2.2.2.2.2.2.2.2.2.2.2.2.2.2.2.2.2.2.2.2.2.2.2.1 e0.2.2.2.2.2.2.2.2.2.2.2.2.2.2.2.2.2.2.2.2.2.2.2.2.2.2.2.2.2.2.2.2.1 e0.2.2.2.2.2.2.2.2.2.2.2.2.2.2.2.2.2.2.2.2.2.2.2.2.2.2.2.2.2.2.2.2.2.1 e0.2.2.2.2.2.2.2.2.2.2.2.2.2.2.2.2.2.2.2.2.2.2.2.2.2.2.2.2.2.2.2.2.2.2.1 e0.2.2.2.2.2.2.2.2.2.2.2.2.2.2.2.2.2.2.2.2.2.2.2.2.2.2.2.2.2.2.2.2.2.2.2.1 e0.2.2.2.2.2.2.2.2.2.2.2.2.2.2.2.2.2.2.2.2.2.2.2.2.2.2.2.2.2.2.2.2.2.2.2.2.1 e0.2.2.2.2.2.2.2.2.2.2.2.2.2.2.2.2.2.2.2.2.2.2.2.2.2.2.2.2.2.2.2.2.2.2.2.2.2.1 e0.2.2.2.2.2.2.2.2.2.2.2.2.2.2.2.2.2.2.2.2.2.2.2.2.2.2.2.2.2.2.2.2.2.2.2.2.2.2.1 e0.2.2.2.2.2.2.2.2.2.2.2.2.2.2.2.2.2.2.2.2.2.2.2.2.2.2.2.2.2.2.2.2.2.2.2.2.2.2.2.1 e0.2.2.2.2.2.2.2.2.2.2.2.2.2.2.2.2.2.2.2.2.2.2.2.2.2.2.2.2.2.2.2.2.2.2.2.2.2.2.2.2.1 e0.2.2.2.2.2.2.2.2.2.2.2.2.2.2.2.2.2.2.2.2.2.2.2.2.2.2.2.2.2.2.2.2.2.2.2.2.2.2.2.2.2.1 e0.2.2.2.2.2.2.2.2.2.2.2.2.2.2.2.2.2.2.2.2.2.2.2.2.2.2.2.2.2.2.2.2.2.2.2.2.2.2.2.2.2.2.1 e0.2.2.2.2.2.2.2.2.2.2.2.2.2.2.2.2.2.2.2.2.2.2.2.2.2.2.2.2.2.2.2.2.2.2.2.2.2.2.2.2.2.2.2
noncomputable def q : Par := pick ne Goal
@[irreducible] noncomputable def w : World := q.1
@[irreducible] noncomputable def f : Addr := q.2.1
@[irreducible] noncomputable def g : Addr := q.2.2.1
@[irreducible] noncomputable def foc : Value := q.2.2.2.1
@[irreducible] noncomputable def fod : Option Addr := q.2.2.2.2.1
@[irreducible] noncomputable def ffd : FuncData := q.2.2.2.2.2.1
@[irreducible] noncomputable def fsl : Array (Option Value) := q.2.2.2.2.2.2.1
@[irreducible] noncomputable def og : Obj := q.2.2.2.2.2.2.2.1
@[irreducible] noncomputable def R : List Nat → List Nat → List Nat := q.2.2.2.2.2.2.2.2.1
@[irreducible] noncomputable def Y : List Nat → List Nat → List Nat := q.2.2.2.2.2.2.2.2.2.1
@[irreducible] noncomputable def Dm : List Nat → List Nat → Prop := q.2.2.2.2.2.2.2.2.2.2.1
@[irreducible] noncomputable def Inv : Nat → Led → Prop := q.2.2.2.2.2.2.2.2.2.2.2.1
@[irreducible] noncomputable def need : Led := q.2.2.2.2.2.2.2.2.2.2.2.2.1
@[irreducible] noncomputable def lc : Addr := q.2.2.2.2.2.2.2.2.2.2.2.2.2.1
@[irreducible] noncomputable def cc : Nat := q.2.2.2.2.2.2.2.2.2.2.2.2.2.2.1
@[irreducible] noncomputable def code : List (List Nat) := q.2.2.2.2.2.2.2.2.2.2.2.2.2.2.2.1
@[irreducible] noncomputable def cvs : List Value := q.2.2.2.2.2.2.2.2.2.2.2.2.2.2.2.2.1
@[irreducible] noncomputable def own : Led := q.2.2.2.2.2.2.2.2.2.2.2.2.2.2.2.2.2.1
@[irreducible] noncomputable def bs : Led := q.2.2.2.2.2.2.2.2.2.2.2.2.2.2.2.2.2.2.1
@[irreducible] noncomputable def kb : Nat := q.2.2.2.2.2.2.2.2.2.2.2.2.2.2.2.2.2.2.2.1
@[irreducible] noncomputable def U : List (List Nat) := q.2.2.2.2.2.2.2.2.2.2.2.2.2.2.2.2.2.2.2.2.1
@[irreducible] noncomputable def Dg : Nat → List Nat → List Nat → Prop := q.2.2.2.2.2.2.2.2.2.2.2.2.2.2.2.2.2.2.2.2.2.1
@[irreducible] noncomputable def p : Program := q.2.2.2.2.2.2.2.2.2.2.2.2.2.2.2.2.2.2.2.2.2.2.1
@[irreducible] noncomputable def loose : List PySem.Str := q.2.2.2.2.2.2.2.2.2.2.2.2.2.2.2.2.2.2.2.2.2.2.2.1
@[irreducible] noncomputable def mean : ExcName → Option Value := q.2.2.2.2.2.2.2.2.2.2.2.2.2.2.2.2.2.2.2.2.2.2.2.2.1
@[irreducible] noncomputable def mg : PySem.Str → Option Value := q.2.2.2.2.2.2.2.2.2.2.2.2.2.2.2.2.2.2.2.2.2.2.2.2.2.1
@[irreducible] noncomputable def mb : PySem.Str → Option Value := q.2.2.2.2.2.2.2.2.2.2.2.2.2.2.2.2.2.2.2.2.2.2.2.2.2.2.1
@[irreducible] noncomputable def dp : Nat := q.2.2.2.2.2.2.2.2.2.2.2.2.2.2.2.2.2.2.2.2.2.2.2.2.2.2.2.1
@[irreducible] noncomputable def un : Nat := q.2.2.2.2.2.2.2.2.2.2.2.2.2.2.2.2.2.2.2.2.2.2.2.2.2.2.2.2.1
@[irreducible] noncomputable def gd : Option (List Code) := q.2.2.2.2.2.2.2.2.2.2.2.2.2.2.2.2.2.2.2.2.2.2.2.2.2.2.2.2.2.1
@[irreducible] noncomputable def cn : PySem.Str := q.2.2.2.2.2.2.2.2.2.2.2.2.2.2.2.2.2.2.2.2.2.2.2.2.2.2.2.2.2.2.1
@[irreducible] noncomputable def cs : Scope := q.2.2.2.2.2.2.2.2.2.2.2.2.2.2.2.2.2.2.2.2.2.2.2.2.2.2.2.2.2.2.2.1
@[irreducible] noncomputable def a : Addr := q.2.2.2.2.2.2.2.2.2.2.2.2.2.2.2.2.2.2.2.2.2.2.2.2.2.2.2.2.2.2.2.2.1
@[irreducible] noncomputable def ccd : Value := q.2.2.2.2.2.2.2.2.2.2.2.2.2.2.2.2.2.2.2.2.2.2.2.2.2.2.2.2.2.2.2.2.2.1
@[irreducible] noncomputable def cl : List (PySem.Str × Addr) := q.2.2.2.2.2.2.2.2.2.2.2.2.2.2.2.2.2.2.2.2.2.2.2.2.2.2.2.2.2.2.2.2.2.2.1
@[irreducible] noncomputable def outer : List Env := q.2.2.2.2.2.2.2.2.2.2.2.2.2.2.2.2.2.2.2.2.2.2.2.2.2.2.2.2.2.2.2.2.2.2.2.1
@[irreducible] noncomputable def A₀ : Around := q.2.2.2.2.2.2.2.2.2.2.2.2.2.2.2.2.2.2.2.2.2.2.2.2.2.2.2.2.2.2.2.2.2.2.2.2.1
@[irreducible] noncomputable def base : Heap := q.2.2.2.2.2.2.2.2.2.2.2.2.2.2.2.2.2.2.2.2.2.2.2.2.2.2.2.2.2.2.2.2.2.2.2.2.2.1
@[irreducible] noncomputable def h₀ : Heap := q.2.2.2.2.2.2.2.2.2.2.2.2.2.2.2.2.2.2.2.2.2.2.2.2.2.2.2.2.2.2.2.2.2.2.2.2.2.2.1
@[irreducible] noncomputable def L : Addr := q.2.2.2.2.2.2.2.2.2.2.2.2.2.2.2.2.2.2.2.2.2.2.2.2.2.2.2.2.2.2.2.2.2.2.2.2.2.2.2.1
@[irreducible] noncomputable def m : PySem.Str → Option Value := q.2.2.2.2.2.2.2.2.2.2.2.2.2.2.2.2.2.2.2.2.2.2.2.2.2.2.2.2.2.2.2.2.2.2.2.2.2.2.2.2.1
@[irreducible] noncomputable def s : Shared := q.2.2.2.2.2.2.2.2.2.2.2.2.2.2.2.2.2.2.2.2.2.2.2.2.2.2.2.2.2.2.2.2.2.2.2.2.2.2.2.2.2.1
@[irreducible] noncomputable def Q : Value → Shared → Prop := q.2.2.2.2.2.2.2.2.2.2.2.2.2.2.2.2.2.2.2.2.2.2.2.2.2.2.2.2.2.2.2.2.2.2.2.2.2.2.2.2.2.2.1
@[irreducible] noncomputable def E : Value → Shared → Prop := q.2.2.2.2.2.2.2.2.2.2.2.2.2.2.2.2.2.2.2.2.2.2.2.2.2.2.2.2.2.2.2.2.2.2.2.2.2.2.2.2.2.2.2
noncomputable def BH (g₉ : Heap) (l₉ : Addr) (h₉ : Heap) (t₉ : Nat) : Prop := BodyS w 159 158 26 [(PySem.Str.ofString "code", .ref lc), (PySem.Str.ofString "rest", .ref f), (PySem.Str.ofString "lay", .ref g)] (own ++ bs) dp un gd cn cs a ccd cl outer A₀ base h₀ L m s Q E (rfl : stm 26 = _) g₉ l₉ h₉ t₉
noncomputable def ev : EV := pick evne (fun e => BH e.g e.l e.h e.t)
@[irreducible] noncomputable def g' : Heap := ev.g
@[irreducible] noncomputable def L' : Addr := ev.l
@[irreducible] noncomputable def h' : Heap := ev.h
@[irreducible] noncomputable def tk' : Nat := ev.t
theorem body (hR : RestC w 870 f ⟨foc, fod, .func ffd, fsl⟩ R Dm Inv) (hY : LayC w 870 g og Y need) (hc : (lc, W.listOf cvs.toArray cc) ∈ own) (hcv : F2 TxtV code cvs) (hcl : code.length ≤ 3) (hU : U.length ≤ 6) (hinit : ∀ a ∈ code, ∀ b ∈ code, R a b ≠ [] → R a b ∈ U ∧ Dg 0 (R a b) b) (hst1 : ∀ n wd m c, Dg n wd m → wd ∈ U → c ∈ code → R wd c ≠ [] → R wd c ∈ U ∧ Dg (n + 1) (R wd c) (Y m (R wd c))) (hst2 : ∀ n wd m c, Dg n wd m → wd ∈ U → c ∈ code → R c wd ≠ [] → R c wd ∈ U ∧ Dg (n + 1) (R c wd) m) (hmono : ∀ n wd m, Dg n wd m → Dg (n + 1) wd m) (hlen : ∀ n wd m, n ≤ 8 → Dg n wd m → m.length ≤ 200) (hdm : ∀ a b, (a ∈ code ∨ a ∈ U) → (b ∈ code ∨ b ∈ U) → Dm a b ∧ (R a b).length ≤ 200) (hI : Inv kb bs) (hkb : kb + 1000 < 1000000) (hap : Apart own bs) (hneed : ∀ p ∈ need, p ∈ own) (B : Below A₀ base outer h₀) (X : (K0 w.params).In base) (T : Top p loose mean mg mb base) (C1 : CodeHd base 61 57) (C2 : CodeHd base 170 168) (D : KtsDicts (frs outer) h₀) (hk : cs.kind = .function) (hd : dp < 850) (hu : un < 8 * 850) (hret : ∀ h r news' h' tk', KtsTurn (frs outer) h₀ h → Below A₀ base outer h → KtsDicts (frs outer) h → Fr h L h' m → News h L h' news' → ((RoundsP R code Dg Inv kb own)) r news' → Q r { s with heap := h', toks := tk' }) : BH g' L' h' tk' := by
  have yc : Clo := .mk
  w_on
  intro cells' F' N' Y' B' lt' D'
  have X' := X.keeps B'.stays
  have T' := T.keeps B'.stays
  have C1' := C1.keeps B'.stays
  have C2' := C2.keeps B'.stays
  k_cells Y'
  (try simp only [List.cons_append, List.nil_append] at N')
  rename_i o1 o2 o3 oC d1 d2 d3 dC
  revert o1 o2 o3 oC d1 d2 d3 dC N'
  intro o1 o2 o3 oC d1 d2 d3 dC N'
  (try dsimp only)
  (try k_fold)
  have hgt : ∀ p ∈ own ++ bs, @LT.lt Nat _ p.1 L' := lt'
  have hk1 : ∀ p ∈ own ++ bs, p.1 ≠ L' + 1 := fun p hp => by have := hgt p hp; show @Ne Nat p.1 _; omega
  have hk2 : ∀ p ∈ own ++ bs, p.1 ≠ L' + 1 + 1 := fun p hp => by have := hgt p hp; show @Ne Nat p.1 _; omega
  have hk3 : ∀ p ∈ own ++ bs, p.1 ≠ L' + 1 + 1 + 1 := fun p hp => by have := hgt p hp; show @Ne Nat p.1 _; omega
  have hk4 : ∀ p ∈ own ++ bs, p.1 ≠ L' + 1 + 1 + 1 + 1 := fun p hp => by have := hgt p hp; show @Ne Nat p.1 _; omega
  k_steps
  rename_i dm _ om lom hsm fsm him fim l1m _ oM dM ls _ l1s _ oS dS df _ of0 lof hsf fsf hif fif l1f _ oF FW NW dF
  clear fsm him fim fsf hif fif d1 d2 d3
  have dC : oC.data = .cell (some (.ref lc)) := dC
  obtain ⟨own2, ho2, NW⟩ := (show ∃ x, x = (ls, W.listOf #[] 0) :: (dm, om) :: (L' + 1 + 1 + 1 + 1, oF) :: (L' + 1 + 1 + 1, oS) :: (L' + 1 + 1, oM) :: (L' + 1, oC) :: own ∧ News g' L' _ ((df, of0) :: (x ++ bs)) from ⟨_, rfl, NW⟩)
  revert own2 ho2 NW
  intro own2 ho2 NW
  have hin2 : ∀ {x : Addr × Obj} {b : Led}, x ∈ own → x ∈ own2 ++ b := fun h => by rw [ho2]; simp [h]
  have hCm : ∀ {b : Led}, (L' + 1, oC) ∈ own2 ++ b := by intro b; rw [ho2]; simp
  have hFm : ∀ {b : Led}, (L' + 1 + 1 + 1 + 1, oF) ∈ own2 ++ b := by intro b; rw [ho2]; simp
  have hdf : ∀ p ∈ own2 ++ bs, @LT.lt Nat _ p.1 df := by
    intro p hp
    rw [ho2] at hp
    simp only [List.cons_append, List.mem_cons] at hp
    obtain ⟨w1, w2, w3, w4, w5, w6, w7⟩ := l1f
    revert w1 w2 w3 w4 w5 w6 w7
    intro w1 w2 w3 w4 w5 w6 w7
    rcases hp with rfl | rfl | rfl | rfl | rfl | rfl | hp
    · exact w1
    · exact w2
    · exact w3
    · exact w4
    · exact w5
    · exact w6
    · exact AllLt.mem w7 p hp
  have hap2 : Apart own2 bs := by
    intro q hq p hp
    rw [ho2] at hq
    have hp' := List.mem_append_right own hp
    have hg := hgt p hp'
    have hdm2 := AllLt.mem l1m.2.2.2.2 p hp'
    have hls2 : @LT.lt Nat _ p.1 ls := Nat.lt_trans hdm2 l1s.1
    simp only [List.mem_cons] at hq
    rcases hq with rfl | rfl | rfl | rfl | rfl | rfl | hq
    · exact Nat.ne_of_lt hls2
    · exact Nat.ne_of_lt hdm2
    · exact hk4 p hp'
    · exact hk3 p hp'
    · exact hk2 p hp'
    · exact hk1 p hp'
    · exact hap q hq p hp
  have hC1 : (L' + 1, oC) ∈ own2 ++ bs := hCm
  have hF1 : (L' + 1 + 1 + 1 + 1, oF) ∈ own2 ++ bs := hFm
  refine Stop.go (For_turns FW ?_)
  k_steps
  refine Stop.go (for_list2 (n := cc) (vs := cvs) (RJ1 w R code Inv kb df own2 _) rfl (by assumption) (by assumption) (List.mem_cons_of_mem _ (hin2 hc)) ⟨fun _ _ => rfl, of0, [], bs, kb, by assumption, .nil, hI, Nat.le_refl _, Apart.cons (fun p hp => Nat.ne_of_lt (hdf p (List.mem_append_right _ hp))) hap2, rfl⟩ ?keep1 ?step1 ?done1)
  case keep1 =>
    intro i m' n'
    intro zz1
    obtain ⟨zz2, o', kvs, b', k', zz3, zz4, zz5, zz6, zz7, zz8⟩ := zz1
    revert zz2 o' kvs b' k' zz3 zz4 zz5 zz6 zz7 zz8
    intro _ o' kvs b' k' _ _ _ _ _ zz8
    subst zz8
    exact List.mem_cons_of_mem _ (hin2 hc)
  case step1 =>
    refine cl9 ?_; generalize cl9_1 _ _ = i, cl9_2 _ _ = v, cl9_3 _ _ = m', cl9_4 _ _ = n', cl9_5 _ _ = h', cl9_6 _ _ = tk', cl9_7 _ _ = I, cl9_8 _ _ = oI, cl9_9 _ _ = Q8
    intro hv
    intro zz9
    obtain ⟨hk', o', kvs, b', k', g1, g2, g3, g4, g5, zz10⟩ := zz9
    revert hk' o' kvs b' k' g1 g2 g3 g4 g5 zz10
    intro hk' o' kvs b' k' g1 g2 g3 g4 g5 zz10
    subst zz10
    intro hoff F' N0 hQ8
    have F2 := fr_to F' (mapK_eq hk')
    clear F' FW NW
    dsimp only [mapK] at F2
    have hlt : i < code.length := by
      rw [hcv.length]
      rcases Nat.lt_or_ge i cvs.length with h | h
      · exact h
      · rw [List.getElem?_eq_none h] at hv; cases hv
    obtain ⟨a1, ha1⟩ : ∃ c, code[i]? = some c := ⟨_, List.getElem?_eq_getElem hlt⟩
    revert a1 ha1
    intro a1 ha1
    obtain ⟨zz11, e1, ta, zz12⟩ := hcv.get i ha1
    revert zz11 e1 ta zz12
    intro _ e1 ta zz12
    subst zz12
    rw [hv] at e1
    cases e1
    have hma : a1 ∈ code := List.mem_of_getElem? ha1
    have hfold : (code.take (i + 1)).foldl (firstL R code) [] = code.foldl (step0 R a1) ((code.take i).foldl (firstL R code) []) := by
      rw [List.take_add_one, ha1, List.foldl_append]; rfl
    have hC2 : (L' + 1, oC) ∈ own2 ++ b' := hCm
    have hF2 : (L' + 1 + 1 + 1 + 1, oF) ∈ own2 ++ b' := hFm
    k_steps
    rename_i F1 N1
    refine Stop.go (For_turns F1 ?_)
    k_steps
    refine Stop.go (for_list2 (n := cc) (vs := cvs) (RJ2 w R code Inv kb df own2 i a1 I oI _) rfl (by assumption) (by assumption) (List.mem_cons_of_mem _ (List.mem_cons_of_mem _ (hin2 hc))) ⟨fun _ _ => rfl, o', kvs, b', k', g1, g2, g3, g4, Apart.cons (fun p hp => hoff p (List.mem_cons_of_mem _ (List.mem_append_right _ hp))) g5, rfl⟩ ?keep2 ?step2 ?done2)
    case keep2 =>
      intro j m' n'
      intro zz13
      obtain ⟨zz14, o2, kvs2, b2, k2, zz15, zz16, zz17, zz18, zz19, zz20⟩ := zz13
      revert zz14 o2 kvs2 b2 k2 zz15 zz16 zz17 zz18 zz19 zz20
      intro _ o2 kvs2 b2 k2 _ _ _ _ _ zz20
      subst zz20
      exact List.mem_cons_of_mem _ (List.mem_cons_of_mem _ (hin2 hc))
    case done2 =>
      intro m2 n2 h' tk'
      intro zz21
      obtain ⟨hk2, o2, kvs2, b2, k2, q1, q2, q3, q4, q5, zz22⟩ := zz21
      revert hk2 o2 kvs2 b2 k2 q1 q2 q3 q4 q5 zz22
      intro hk2 o2 kvs2 b2 k2 q1 q2 q3 q4 q5 zz22
      subst zz22
      intro F' N'
      have F3 := fr_to F' (mapK_eq hk2)
      clear F' F2 N0 F1 N1
      dsimp only [mapK] at F3
      rw [← hcv.length, List.take_length, ← hfold] at q2
      rw [← hcv.length] at q4
      k_steps
      refine AgainF.next (by assumption) (by assumption) (Sub.cons List.mem_cons_self (fun _ h => nomatch h)) (Sub.skip Sub.refl) ?off ⟨by k_extra "kept", o2, kvs2, b2, k2, q1, q2, q3, by omega, q5.tail, rfl⟩
      case off =>
        intro p hp q hq
        rw [List.mem_singleton.mp hq]
        rcases List.mem_cons.mp hp with rfl | hp
        · exact hoff (df, o') List.mem_cons_self
        · rcases List.mem_append.mp hp with hp | hp
          · exact hoff p (List.mem_cons_of_mem _ (List.mem_append_left _ hp))
          · exact q5.head p hp
    case step2 =>
      refine cl9 ?_; generalize cl9_1 _ _ = j, cl9_2 _ _ = v, cl9_3 _ _ = m2, cl9_4 _ _ = n2, cl9_5 _ _ = h', cl9_6 _ _ = tk', cl9_7 _ _ = I2, cl9_8 _ _ = oI2, cl9_9 _ _ = Q9
      intro hv2
      intro zz23
      obtain ⟨hk2, o2, kvs2, b2, k2, q1, q2, q3, q4, q5, zz24⟩ := zz23
      revert hk2 o2 kvs2 b2 k2 q1 q2 q3 q4 q5 zz24
      intro hk2 o2 kvs2 b2 k2 q1 q2 q3 q4 q5 zz24
      subst zz24
      intro hoff2 F' N' hQ9
      clear yc
      have F3 := fr_to F' (mapK_eq hk2)
      clear F' F2 N0 F1 N1
      dsimp only [mapK] at F3
      have hlt2 : j < code.length := by
        rw [hcv.length]
        rcases Nat.lt_or_ge j cvs.length with h | h
        · exact h
        · rw [List.getElem?_eq_none h] at hv2; cases hv2
      obtain ⟨c, hcj⟩ : ∃ c, code[j]? = some c := ⟨_, List.getElem?_eq_getElem hlt2⟩
      revert c hcj
      intro c hcj
      obtain ⟨zz25, e1, tc, zz26⟩ := hcv.get j hcj
      revert zz25 e1 tc zz26
      intro _ e1 tc zz26
      subst zz26
      rw [hv2] at e1
      cases e1
      have hcm : c ∈ code := List.mem_of_getElem? hcj
      obtain ⟨hD1, hD3⟩ := hdm a1 c (.inl hma) (.inl hcm)
      revert hD1 hD3
      intro hD1 hD3
      have hfold2 : (code.take (j + 1)).foldl (step0 R a1) ((code.take i).foldl (firstL R code) []) = step0 R a1 ((code.take j).foldl (step0 R a1) ((code.take i).foldl (firstL R code) [])) c := by
        rw [List.take_add_one, hcj, List.foldl_append]; rfl
      have ap2 : Apart ((I2, oI2) :: (I, oI) :: (df, o2) :: own2) b2 := Apart.cons (fun p hp => hoff2 p (List.mem_cons_of_mem _ (List.mem_cons_of_mem _ (List.mem_append_right _ hp)))) q5
      have hff2 : (f, (⟨foc, fod, .func ffd, fsl⟩ : Obj)) ∈ own2 ++ b2 := List.mem_append_right _ (hR.mem _ _ q3)
      have hC2 : (L' + 1, oC) ∈ own2 ++ b2 := hCm
      have hF2 : (L' + 1 + 1 + 1 + 1, oF) ∈ own2 ++ b2 := hFm
      k_steps
      refine Stop.go ?_
      refine fn_use (hR.call k2 b2 ((I2, oI2) :: (I, oI) :: (df, o2) :: own2) a1 c _ _ q3 (by omega) ap2 hD1) (by assumption) (by assumption) X' (by assumption) T' C1' C2' (by rfl) (by k_extra "dep") (by k_extra "dep") ?_
      intro r' n' h' tk' F' N'
      intro zz27
      obtain ⟨zz28, b3, g6, g7, zz29⟩ := zz27
      revert zz28 b3 g6 g7 zz29
      intro zz28 b3 g6 g7 zz29
      subst zz29
      obtain ⟨t5, zz30⟩ := zz28
      revert t5 zz30
      intro t5 zz30
      subst zz30
      dsimp only [List.cons_append] at N' ⊢
      have hC3 : (L' + 1, oC) ∈ own2 ++ b3 := hCm
      have hF3 : (L' + 1 + 1 + 1 + 1, oF) ∈ own2 ++ b3 := hFm
      have hne1 : ∀ p ∈ own2 ++ b3, p.1 ≠ df := fun p hp => (List.mem_append.mp hp).elim (fun h => Nat.ne_of_lt (hdf p (List.mem_append_left _ h))) (fun h => g7 (df, o2) (by first | k_extra "mm" | simp) p h)
      have hI1 : @Ne Nat I df := fun e => hoff (df, o') List.mem_cons_self e.symm
      have hI2 : @Ne Nat I2 df := fun e => hoff2 (df, o2) (by first | k_extra "mm" | simp) e.symm
      have hII : I2 ≠ I := fun e => hoff2 (I, oI) (by first | k_extra "mm" | simp) e.symm
      have hfl : ((code.take j).foldl (step0 R a1) ((code.take i).foldl (firstL R code) [])).length ≤ 1000 := by
        have h1 := fold0_len R a1 (code.take j) ((code.take i).foldl (firstL R code) [])
        have h2 := foldF_len R code (code.take i) []
        simp only [List.length_take, List.length_nil] at h1 h2
        have h3 : min i code.length ≤ 3 := by omega
        have h4 : code.length * min i code.length ≤ 3 * 3 := Nat.mul_le_mul hcl h3
        omega
      have hoffN : ∀ {o9 : Obj}, ∀ p ∈ (I, oI) :: (df, o9) :: (own2 ++ b3), ∀ q ∈ [(I2, oI2)], p.1 ≠ q.1 := by
        intro o9 p hp q hq
        rw [List.mem_singleton.mp hq]
        rcases List.mem_cons.mp hp with rfl | hp
        · exact hII.symm
        · rcases List.mem_cons.mp hp with rfl | hp
          · exact hI2.symm
          · rcases List.mem_append.mp hp with hp | hp
            · exact hoff2 p (by first | k_extra "mm" | simp [hp])
            · exact g7.head p hp
      have apN : ∀ {o9 : Obj}, Apart ((I, oI) :: (df, o9) :: own2) b3 := by
        intro o9 q hq p hp
        rcases List.mem_cons.mp hq with rfl | hq
        · exact g7 (I, oI) (by first | k_extra "mm" | simp) p hp
        · exact g7.tail.tail.set q hq p hp
      generalize hfd : (code.take j).foldl (step0 R a1) ((code.take i).foldl (firstL R code) []) = fd at *
      cases hb1 : !(R a1 c).isEmpty with
      | false =>
        have he : R a1 c = [] := by simpa using hb1
        k_steps
        exact AgainF.next (by assumption) (by assumption) (Sub.cons List.mem_cons_self (fun _ h => nomatch h)) (Sub.skip Sub.refl) hoffN ⟨by k_extra "kept", o2, kvs2, b3, k2 + 1, q1, by rw [hfold2, step0, if_neg (fun h => h.1 he)]; exact q2, g6, by omega, apN, rfl⟩
      | true =>
        have he : R a1 c ≠ [] := by simpa using hb1
        rcases q2.at (R a1 c) with zz31 | zz32
        · obtain ⟨w1, w2⟩ := zz31
          revert w1 w2
          intro w1 w2
          have w3 : (valueAt kvs2 (tx (R a1 c))).isSome = false := by rw [w2]; rfl
          have hsz2 : kvs2.length ≤ sizeLine := le_sizeLine (by rw [← q2.length]; omega)
          have hput := q2.put (x := c) (t := tc) w2
          k_steps
          rename_i o3 F9 N9 hd3
          exact AgainF.next F9 N9 (Sub.cons List.mem_cons_self (fun _ h => nomatch h)) (Sub.skip Sub.refl) hoffN ⟨by k_extra "kept", o3, _, b3, k2 + 1, hd3, by rw [hfold2, step0, if_pos ⟨he, w1⟩]; exact hput, g6, by omega, apN, rfl⟩
        · obtain ⟨x, t, w1, w2⟩ := zz32
          revert x t w1 w2
          intro x t w1 w2
          have w3 : (valueAt kvs2 (tx (R a1 c))).isSome = true := by rw [w2]; rfl
          k_steps
          exact AgainF.next (by assumption) (by assumption) (Sub.cons List.mem_cons_self (fun _ h => nomatch h)) (Sub.skip Sub.refl) hoffN ⟨by k_extra "kept", o2, kvs2, b3, k2 + 1, q1, by rw [hfold2, step0, if_neg (fun h => by rw [w1] at h; cases h.2)]; exact q2, g6, by omega, apN, rfl⟩
  case done1 =>
    intro m1 n1 h1 tk1
    intro zz33
    obtain ⟨hk1', od, kvd, bd, kd, q1, q2, q3, q4, q5, zz34⟩ := zz33
    revert hk1' od kvd bd kd q1 q2 q3 q4 q5 zz34
    intro hk1' od kvd bd kd q1 q2 q3 q4 q5 zz34
    subst zz34
    intro F1 N1
    have F2 := fr_to F1 (mapK_eq hk1')
    clear F1 FW NW
    dsimp only [mapK] at F2
    rw [← hcv.length, List.take_length] at q2
    rw [← hcv.length] at q4
    have hC2 : (L' + 1, oC) ∈ own2 ++ bd := hCm
    have hF2 : (L' + 1 + 1 + 1 + 1, oF) ∈ own2 ++ bd := hFm
    k_steps
    subst ho2
    clear hC2 hF2 hC1 hF1 hCm hFm hin2 hap2
    have hlm4 : @LT.lt Nat _ (L' + 1 + 1 + 1 + 1) dm := l1m.1
    have hL1 : @LT.lt Nat _ dm ls := l1s.1
    have hL2 : @LT.lt Nat _ ls df := l1f.1
    have hown : ∀ p ∈ own, @LT.lt Nat _ p.1 L' := fun p hp => hgt p (List.mem_append_left _ hp)
    clear hdf hk1 hk2 hk3 hk4 l1m l1s l1f
    refine Stop.go (cut_S (A₀ := ktrTop dp un gd cn cs L a ccd cl outer) (base := base) (outer := envX cn cs L a ccd cl :: outer) (g₀ := g') (L := L') (fun m9 led => ∃ t, t ≤ 7 ∧ RJ w R code U Dg Inv f g dm L' oC own kb True t m9 led) (For_S ?_) ?after)
    case after =>
      intro g2 h2 tk2 m2 led
      intro zz35
      obtain ⟨t, ht, w1, w2, ms, mkv, om2, sn, sv, scap, fs, fkv, of2, lsA, dfA, b, k, oM2, oS2, oF2, e1, e2, e3, e4, e5, e6, e7, e8, ez, e9, e10, e11, e12, e13, e14, e15, zz36⟩ := zz35
      revert t ht w1 w2 ms mkv om2 sn sv scap fs fkv of2 lsA dfA b k oM2 oS2 oF2 e1 e2 e3 e4 e5 e6 e7 e8 ez e9 e10 e11 e12 e13 e14 e15 zz36
      intro t ht w1 w2 ms mkv om2 sn sv scap fs fkv of2 lsA dfA b k oM2 oS2 oF2 e1 e2 e3 e4 e5 e6 e7 e8 ez e9 e10 e11 e12 e13 e14 e15 zz36
      subst zz36
      intro T2 B2 D2 F4 N4
      clear yc
      obtain rfl := ez trivial
      have F5 := fr_to F4 (mapK_eq (KeptK.refl [PySem.Str.ofString "rest", PySem.Str.ofString "lay"] m2))
      clear F4
      dsimp only [mapK] at F5
      rw [w1, w2] at F5
      have X2 := X.keeps B2.stays
      have TT2 := T.keeps B2.stays
      have C12 := C1.keeps B2.stays
      have C22 := C2.keeps B2.stays
      clear X' T' C1' C2' B'
      have hkb2 : fkv.length ≤ 6 := by rw [← e5.length]; exact Nat.zero_le _
      have hsl : sn.length ≤ 6 := Nat.le_trans e9.short hU
      have hfk : (!fkv.isEmpty) = false := by
        cases e5; rfl
      dsimp only
      k_steps
      refine Stop.go (PyProof.Rows.LCt.ListComp_T (F₀ := by assumption) (by with_unfolding_all rfl) (by decide) (by rfl) (by decide) (by rfl) ?_)
      k_steps
      refine Stop.go (filt_texts (fun x => decide (x ∈ code)) (fun x => (look ms x).getD []) rfl (by assumption) (by assumption) (by k_mem) e3 (by omega) ?test1 ?elem1 ?fin1)
      case test1 =>
        intro i c t9 J oJ C oCC D ys m9 h9 g9 tk9 E9 hi9 hn9 hm9 F9 N9
        k_steps
        refine Stop.go (in_texts (cap := cc) (by assumption) ?hm hcv rfl ?_)
        case hm => simp only [List.mem_cons, List.mem_append]; repeat (first | exact Or.inl hc | apply Or.inr)
        k_steps
        exact TEnd.mk F9 N9 Sub.refl
      case elem1 =>
        intro i c t9 J oJ C oCC D ys m9 h9 g9 tk9 E9 hi9 hp9 hn9 hm9 F9 N9
        obtain ⟨y, ty, q1, q2⟩ : ∃ x t, look ms c = some x ∧ valueAt mkv (tx c) = some (.str (tx x) t) := (e2.at c).elim (fun h => absurd h.1 ((e9.keys c).mpr (List.mem_of_getElem? hi9))) id
        revert y ty q1 q2
        intro y ty q1 q2
        k_steps
        exact EEnd.mk F9 N9 Sub.refl ⟨_, by rw [q1]; rfl⟩
      case fin1 =>
        intro ys Dq h9 tk9 hys F9 N9 off9
        k_steps
        dsimp only
        have hoffD : ∀ p ∈ own ++ b, p.1 ≠ Dq := fun p hp => off1_mem off9 p (by simp only [List.mem_cons]; repeat (first | exact hp | apply Or.inr))
        refine ⟨g2, L', _, (Dq, W.listOf ys.toArray ys.length) :: (own ++ b), T2, F9, fun p hp => N9 p ?_, ?_⟩
        · rcases List.mem_cons.mp hp with rfl | hp
          · exact List.mem_cons_self
          · simp only [List.mem_cons]
            repeat (first | exact hp | apply Or.inr)
        intro h' q1 q2 q3 q4 q5
        refine hret h' _ _ _ _ q1 q4 q5 q2 q3 ⟨Dq, _, ys, _, b, k, rfl, hys, e10, by omega, ?v1, fun p hp => hoffD p (List.mem_append_left _ hp), rfl, ?v2, ?v3, ?v4⟩
        case v1 =>
          intro q hq p hp
          rcases List.mem_cons.mp hq with rfl | hq
          · exact hoffD p (List.mem_append_right _ hp)
          · exact e15 q (by first | k_extra "mm" | simp [hq]) p hp
        case v2 =>
          intro mm hm
          obtain ⟨wd, h1, h3⟩ := List.mem_map.mp hm
          revert wd h1 h3
          intro wd h1 h3
          obtain ⟨h1, h4⟩ := List.mem_filter.mp h1
          revert h1 h4
          intro h1 h4
          obtain ⟨x, hx⟩ := Option.ne_none_iff_exists'.mp ((e9.keys wd).mpr h1)
          revert x hx
          intro x hx
          rw [hx] at h3
          exact ⟨t, wd, by omega, by simpa using h4, by rw [← h3]; exact (e9.msg _ _ hx).2⟩
        case v4 =>
          rw [List.length_map]
          exact Nat.le_trans (List.length_filter_le ..) hsl
        case v3 =>
          intro he
          refine ⟨_, e9.closed, fun wd hw hs => ?_⟩
          have : wd ∈ sn.filter fun x => decide (x ∈ code) := List.mem_filter.mpr ⟨hs, by simpa using hw⟩
          rw [List.map_eq_nil_iff.mp he] at this
          cases this
    k_steps
    rename_i _ _ _ _ _ hr F3 N3 _
    dsimp only
    have hL4 : @LT.lt Nat _ sysModules L' := Nat.lt_of_lt_of_le (modules_low (T'.nolimit)) F3.above
    refine range_S (n := 7) (RJ w R code U Dg Inv f g dm L' oC own kb False) rfl (by k_extra "own") B' D' F3 N3 hr (by decide) (by decide) ⟨rfl, rfl, [], [], om, [], [], 0, _, kvd, od, ls, df, bd, kd, oM, oS, oF, by assumption, .nil, .nil, q1, q2, dF, dS, dM, (fun h => h.elim), RF.init hinit, q3, by omega, hL1, hL2, by assumption, q5, rfl⟩ ?stepM ?doneM
    case doneM =>
      intro g2 h2 tk2 m2 led
      intro zz37
      obtain ⟨w1, w2, ms, mkv, om2, sn, sv, scap, fs, fkv, of2, lsA, dfA, b, k, oM2, oS2, oF2, e1, e2, e3, e4, e5, e6, e7, e8, ez, e9, e10, e11, e12, e13, e14, e15, zz38⟩ := zz37
      revert w1 w2 ms mkv om2 sn sv scap fs fkv of2 lsA dfA b k oM2 oS2 oF2 e1 e2 e3 e4 e5 e6 e7 e8 ez e9 e10 e11 e12 e13 e14 e15 zz38
      intro w1 w2 ms mkv om2 sn sv scap fs fkv of2 lsA dfA b k oM2 oS2 oF2 e1 e2 e3 e4 e5 e6 e7 e8 ez e9 e10 e11 e12 e13 e14 e15 zz38
      subst zz38
      intro T2 B2 D2 F4 N4
      clear yc
      have hfs : fs = [] := Decidable.not_not.mp fun q => by
        have h1 := e9.count q
        have h2 := e9.short
        omega
      exact CutS.mk T2 B2 D2 F4 N4 ⟨7, Nat.le_refl _, w1, w2, ms, mkv, om2, sn, sv, scap, fs, fkv, of2, lsA, dfA, b, k, oM2, oS2, oF2, e1, e2, e3, e4, e5, e6, e7, e8, fun _ => hfs, e9, e10, e11, e12, e13, e14, e15, rfl⟩
    case stepM =>
      refine cl10 ?_; generalize cl10_1 _ _ = t, cl10_2 _ _ = g2, cl10_3 _ _ = h2, cl10_4 _ _ = tk2, cl10_5 _ _ = I, cl10_6 _ _ = oI, cl10_7 _ _ = m2, cl10_8 _ _ = led, cl10_9 _ _ = tt, cl10_10 _ _ = Q10
      intro ht
      intro zz39
      obtain ⟨w1, w2, ms, mkv, om2, sn, sv, scap, fs, fkv, of2, lsA, dfA, b, k, oM2, oS2, oF2, e1, e2, e3, e4, e5, e6, e7, e8, ez, e9, e10, e11, e12, e13, e14, e15, zz40⟩ := zz39
      revert w1 w2 ms mkv om2 sn sv scap fs fkv of2 lsA dfA b k oM2 oS2 oF2 e1 e2 e3 e4 e5 e6 e7 e8 ez e9 e10 e11 e12 e13 e14 e15 zz40
      intro w1 w2 ms mkv om2 sn sv scap fs fkv of2 lsA dfA b k oM2 oS2 oF2 e1 e2 e3 e4 e5 e6 e7 e8 ez e9 e10 e11 e12 e13 e14 e15 zz40
      subst zz40
      intro hoff T2 B2 D2 F4 N4 hQ10
      clear yc
      clear F3 N3 hr
      (try clear N1)
      have F5 := fr_to F4 (mapK_eq (KeptK.refl [PySem.Str.ofString "rest", PySem.Str.ofString "lay"] m2))
      clear F4
      dsimp only [mapK] at F5
      rw [w1, w2] at F5
      have X2 := X.keeps B2.stays
      have TT2 := T.keeps B2.stays
      have C12 := C1.keeps B2.stays
      have C22 := C2.keeps B2.stays
      clear X' T' C1' C2' B'
      have hin2 : ∀ {x : Addr × Obj}, x ∈ own → x ∈ own ++ b := fun h => List.mem_append_left _ h
      have hfn : (fs.map (·.1)).Nodup := e5.nodup e4
      have hfU : ∀ k ∈ fs.map (·.1), k ∈ U := fun k hk => by
        obtain ⟨x, e⟩ := Option.ne_none_iff_exists'.mp (look_keys.mpr hk)
        revert x e
        intro x e
        exact (e9.found k x e).1
      have hfl : fs.length ≤ 6 := by
        have := nodup_len hfn hfU
        rw [List.length_map] at this; omega
      have hsl : sn.length ≤ 6 := Nat.le_trans e9.short hU
      have hkb2 : fkv.length ≤ 6 := by rw [← e5.length]; exact hfl
      by_cases hfe : fs = []
      · have hfk : (!fkv.isEmpty) = false := by
          subst hfe
          cases e5; rfl
        k_steps
        rename News _ _ _ _ => N8
        show AgainS _ _ _ _ _ _ _ _ _ .brk _
        exact CutS.mk T2 B2 D2 (by assumption) (fun p hp => N8 p (List.mem_cons_of_mem _ hp)) ⟨t, by omega, rfl, rfl, ms, mkv, om2, sn, sv, scap, fs, fkv, of2, lsA, dfA, b, k, oM2, oS2, oF2, e1, e2, e3, e4, e5, e6, e7, e8, fun _ => hfe, e9, e10, e11, e12, e13, e14, e15, rfl⟩
      have hfk : (!fkv.isEmpty) = true := by
        cases e5 with
        | nil => exact absurd rfl hfe
        | cons _ _ => rfl
      k_steps
      have hseen : (lsA, W.listOf sv.toArray scap) ∈ (lsA, W.listOf sv.toArray scap) :: (dm, om2) :: (L' + 1 + 1 + 1 + 1, oF2) :: (L' + 1 + 1 + 1, oS2) :: (L' + 1 + 1, oM2) :: (L' + 1, oC) :: (own ++ b) := List.mem_cons_self
      refine Stop.go (sorted_dict (ls := fs.map (·.1)) rfl (by assumption) (by assumption) (List.mem_cons_of_mem _ List.mem_cons_self) e4 e14 e5.keys.symm (by rw [List.length_map]; omega) ?_)
      intro D1 h5 tk5 nv nw cap1 F6 N6 l1 hnv hnp hnr
      k_lt l1
      have hnl : nw.length ≤ 6 := by rw [hnp.length_eq, List.length_map]; exact hfl
      have hnd : nw.Nodup := hnp.nodup_iff.mpr hfn
      have hsvl : sv.length ≤ 6 := by rw [← e3.length]; exact hsl
      have hnvl : nv.length ≤ 6 := by rw [← hnv.length]; exact hnl
      k_steps
      refine Stop.go (PyProof.Rows.LCt.ListComp_T (F₀ := by assumption) (by with_unfolding_all rfl) (by decide) (by rfl) (by decide) (by rfl) ?_)
      k_steps
      refine Stop.go (filt_texts (fun x => !decide (x ∈ sn)) id rfl (by assumption) (by assumption) (by k_mem) hnv (by omega) ?test1 ?elem1 ?fin1)
      case test1 =>
        intro i c t9 J oJ C oCC D ys m9 h9 g9 tk9 E9 hi9 hn9 hm9 F9 N9
        k_steps
        refine Stop.go (notin_texts (by assumption) (by k_mem) e3 rfl ?_)
        k_steps
        exact TEnd.mk F9 N9 Sub.refl
      case elem1 =>
        intro i c t9 J oJ C oCC D ys m9 h9 g9 tk9 E9 hi9 hp9 hn9 hm9 F9 N9
        k_steps
        exact EEnd.mk F9 N9 Sub.refl ⟨_, rfl⟩
      case fin1 =>
        intro ys Dq h9 tk9 hys F9 N9 off9
        rw [List.map_id] at hys
        k_steps
        refine Stop.go (PyProof.Rows.LCt.ListComp_T (F₀ := by assumption) (by with_unfolding_all rfl) (by decide) (by rfl) (by decide) (by rfl) ?_)
        k_steps
        refine Stop.go (filt_texts (fun x => !decide (look fs x ≠ none)) id rfl (by assumption) (by assumption) (by k_mem) e3 (by omega) ?test2 ?elem2 ?fin2)
        case test2 =>
          intro i c t8 J oJ C oCC D ys m8 h8 g8 tk8 E8 hi8 hn8 hm8 F8 N8
          have hvi : (valueAt fkv (tx c)).isSome = decide (look fs c ≠ none) := by
            rcases e5.at c with ⟨q1, q2⟩ | ⟨x, t, q1, q2⟩
            · rw [q1, q2]; rfl
            · rw [q1, q2]; simp
          k_steps
          exact TEnd.mk F8 N8 Sub.refl
        case elem2 =>
          intro i c t8 J oJ C oCC D ys m8 h8 g8 tk8 E8 hi8 hp8 hn8 hm8 F8 N8
          k_steps
          exact EEnd.mk F8 N8 Sub.refl ⟨_, rfl⟩
        case fin2 =>
          intro ys2 Dr h8 tk8 hys2 F8 N8 off8
          rw [List.map_id] at hys2
          k_steps
          have hrn : Rise nw := rise_of hnr hnd
          have hmg := mgL_filter _ nw sn rfl hrn e9.rise
          refine Stop.go ?_
          rename News _ _ _ _ => NS
          refine fn_useS (sld w nw sn nv sv D1 lsA cap1 scap _ ?hx ?hy hnv e3 hrn.next e9.rise.next (by omega) (by omega)) B2 (by assumption) NS X T C1 C2 D2 (by rfl) (by k_extra "dep") (by k_extra "dep") ?_
          case hx => k_mem
          case hy => k_mem
          intro g3 r' n' h7 tk7 T3 B3 D3' F7 N7
          intro zz41
          obtain ⟨t9, la9, lb9, ca9, cb9, va9, vb9, zz42, hva, hvb, zz43, l9a, l9b, l9c⟩ := zz41
          revert t9 la9 lb9 ca9 cb9 va9 vb9 zz42 hva hvb zz43 l9a l9b l9c
          intro t9 la9 lb9 ca9 cb9 va9 vb9 zz42 hva hvb zz43 l9a l9b l9c
          subst zz42 zz43
          dsimp only at F7 N7 ⊢
          have X3 := X.keeps B3.stays
          have TT3 := T.keeps B3.stays
          have C13 := C1.keeps B3.stays
          have C23 := C2.keeps B3.stays
          clear X2 TT2 C12 C22
          rw [hmg] at hva hvb
          dsimp only at hva hvb
          k_steps
          have hcg : (sn.filter fun x => !decide (look fs x ≠ none)) = sn.filter fun y => !decide (y ∈ nw) := by
            refine List.filter_congr fun x _ => ?_
            have : look fs x ≠ none ↔ x ∈ nw := by rw [look_keys, hnp.mem_iff]
            simp only [this]
          rw [hcg] at hys2
          refine' Stop.go (pairs_same (by assumption) (by k_mem) (by k_mem) ?p1 ?p2 ?p3 ?p4 hva hys hvb hys2 ?u1 ?u2 ?_)
          case p1 => k_mem
          case p2 => k_mem
          case p3 => k_mem
          case p4 => k_mem
          case u1 => (simp only [units_deeper, units_in1]; show @LT.lt Nat _ _ 9900; show @LT.lt Nat _ (un + _) _; omega)
          case u2 => (simp only [units_deeper, units_in1]; show @LT.lt Nat _ _ 9900; show @LT.lt Nat _ (un + _) _; omega)
          k_steps
          dsimp only
          refine' Stop.go (pairs_same (by assumption) (by k_mem) (by k_mem) ?p1 ?p2 ?p3 ?p4 hnv hnv e3 e3 ?u1 ?u2 ?_)
          case p1 => k_mem
          case p2 => k_mem
          case p3 => k_mem
          case p4 => k_mem
          case u1 => (simp only [units_deeper, units_in1]; show @LT.lt Nat _ _ 9900; show @LT.lt Nat _ (un + _) _; omega)
          case u2 => (simp only [units_deeper, units_in1]; show @LT.lt Nat _ _ 9900; show @LT.lt Nat _ (un + _) _; omega)
          k_steps
          have hgm : ∀ p ∈ own ++ b, p.1 ≠ dm := fun p hp => (List.mem_append.mp hp).elim (fun h => by have := hown p h; show @Ne Nat p.1 _; omega) (fun h => e15 (dm, om2) (by first | k_extra "mm" | simp) p h)
          have hg3 : ∀ p ∈ own ++ b, p.1 ≠ L' + 1 + 1 + 1 := fun p hp => (List.mem_append.mp hp).elim (fun h => by have := hown p h; show @Ne Nat p.1 _; omega) (fun h => e15 (L' + 1 + 1 + 1, oS2) (by first | k_extra "mm" | simp) p h)
          have hg4 : ∀ p ∈ own ++ b, p.1 ≠ L' + 1 + 1 + 1 + 1 := fun p hp => (List.mem_append.mp hp).elim (fun h => by have := hown p h; show @Ne Nat p.1 _; omega) (fun h => e15 (L' + 1 + 1 + 1 + 1, oF2) (by first | k_extra "mm" | simp) p h)
          have hId : @Ne Nat I dm := fun e => hoff (dm, om2) (by first | k_extra "mm" | simp) e.symm
          have hI3 : @Ne Nat I (L' + 1 + 1 + 1) := fun e => hoff (L' + 1 + 1 + 1, oS2) (by first | k_extra "mm" | simp) e.symm
          have hI4 : @Ne Nat I (L' + 1 + 1 + 1 + 1) := fun e => hoff (L' + 1 + 1 + 1 + 1, oF2) (by first | k_extra "mm" | simp) e.symm
          have l9t : @LT.lt Nat _ la9 t9 := Nat.lt_trans l9b l9c
          have l9m : @LT.lt Nat _ dfA la9 := l9a (dfA, of2) (by k_mem)
          have hgl : ∀ p ∈ own ++ b, p.1 ≠ la9 := fun p hp => Nat.ne_of_lt (l9a p (by simp only [List.mem_cons]; repeat (first | exact hp | apply Or.inr)))
          rename Fr _ _ _ _ => F9
          rename News _ _ _ _ => N9
          have NN : News g3 L' _ ((t9, ({ cls := .type "tuple", data := .seq #[.ref la9, .ref lb9] } : Obj)) :: (la9, W.listOf va9.toArray ca9) :: (I, oI) :: (dfA, of2) :: (lsA, W.listOf sv.toArray scap) :: (dm, om2) :: (L' + 1 + 1 + 1 + 1, oF2) :: (L' + 1 + 1 + 1, oS2) :: (L' + 1 + 1, oM2) :: (L' + 1, oC) :: (own ++ b)) := fun p hp => N9 p ((show ∀ q ∈ ((t9, ({ cls := .type "tuple", data := .seq #[.ref la9, .ref lb9] } : Obj)) :: (la9, W.listOf va9.toArray ca9) :: (I, oI) :: (dfA, of2) :: (lsA, W.listOf sv.toArray scap) :: (dm, om2) :: (L' + 1 + 1 + 1 + 1, oF2) :: (L' + 1 + 1 + 1, oS2) :: (L' + 1 + 1, oM2) :: (L' + 1, oC) :: (own ++ b)), q ∈ _ from by k_extra "sub_my") p hp)
          refine Stop.go (For_turns F9 ?_)
          k_steps
          have hput : ∀ i c, (nw.filter fun x => !decide (x ∈ sn))[i]? = some c → look (((nw.filter fun x => !decide (x ∈ sn)).take i).foldl (putL fs) ms) c = none := by
            intro i c hi
            have hc1 : c ∉ sn := by
              have := (List.mem_filter.mp (List.mem_of_getElem? hi)).2
              simpa using this
            have hc2 : look ms c = none := Decidable.not_not.mp fun q => hc1 ((e9.keys c).mp q)
            rw [put_look, hc2, Option.none_or, if_neg]
            intro hm
            obtain ⟨j, hj⟩ := List.mem_iff_getElem?.mp hm
            revert j hj
            intro j hj
            have hjl : j < i := by
              rcases Nat.lt_or_ge j i with h | h
              · exact h
              · rw [List.getElem?_eq_none (by rw [List.length_take]; omega)] at hj; cases hj
            rw [List.getElem?_take_of_lt hjl] at hj
            have hil := (List.getElem?_eq_some_iff.mp hi).1
            have := (List.getElem?_inj hil (hnd.filter _)).mp (hi.trans hj.symm)
            omega
          have hgl6 : (nw.filter fun x => !decide (x ∈ sn)).length ≤ 6 := Nat.le_trans (List.length_filter_le _ _) hnl
          have hval : va9.length ≤ 6 := by rw [← hva.length]; exact hgl6
          have hmk : ms.length ≤ 6 := by
            have := nodup_len (e2.nodup e1) (fun k hk => show k ∈ U from by
              obtain ⟨x, e⟩ := Option.ne_none_iff_exists'.mp (look_keys.mpr hk)
              revert x e
              intro x e
              exact (e9.msg k x e).1)
            rw [List.length_map] at this; omega
          have hpl : ∀ (l : List (List Nat)) (x : List (List Nat × List Nat)), (l.foldl (putL fs) x).length = x.length + l.length := by
            intro l
            induction l with
            | nil => intro x; rfl
            | cons a r ih => intro x; rw [List.foldl_cons, ih, putL, List.length_append, List.length_cons, List.length_cons, List.length_nil]; omega
          refine Stop.go (for_list2 (n := ca9) (vs := va9) (fun i m' n' => KeptK [PySem.Str.ofString "word"] _ m' ∧ ∃ o' kvs, o'.IsDictOf (PySem.strKind P0 w) kvs ∧ DV (((nw.filter fun x => !decide (x ∈ sn)).take i).foldl (putL fs) ms) kvs ∧ n' = (t9, ({ cls := .type "tuple", data := .seq #[.ref la9, .ref lb9] } : Obj)) :: (la9, W.listOf va9.toArray ca9) :: (I, oI) :: (dfA, of2) :: (lsA, W.listOf sv.toArray scap) :: (dm, o') :: (L' + 1 + 1 + 1 + 1, oF2) :: (L' + 1 + 1 + 1, oS2) :: (L' + 1 + 1, oM2) :: (L' + 1, oC) :: (own ++ b)) rfl (by assumption) NN (List.mem_cons_of_mem _ List.mem_cons_self) ⟨fun _ _ => rfl, om2, mkv, e1, e2, rfl⟩ ?keepP ?stepP ?doneP)
          case keepP =>
            intro i m' n'
            intro zz44
            obtain ⟨zz45, o', kvs, zz46, zz47, zz48⟩ := zz44
            revert zz45 o' kvs zz46 zz47 zz48
            intro _ o' kvs _ _ zz48
            subst zz48
            exact List.mem_cons_of_mem _ List.mem_cons_self
          case stepP =>
            intro i v m' n' h8 tk8 J oJ Q11
            intro hv
            intro zz49
            obtain ⟨hk8, o', kvs, f1, f2, zz50⟩ := zz49
            revert hk8 o' kvs f1 f2 zz50
            intro hk8 o' kvs f1 f2 zz50
            subst zz50
            intro hoff8 F' N' hQ11
            have F3 := fr_to F' (mapK_eq hk8)
            clear F' F9 N9 NN
            dsimp only [mapK] at F3
            dsimp only
            obtain ⟨c, hci⟩ : ∃ c, (nw.filter fun x => !decide (x ∈ sn))[i]? = some c := ⟨_, List.getElem?_eq_getElem (by rw [hva.length]; exact (List.getElem?_eq_some_iff.mp hv).1)⟩
            revert c hci
            intro c hci
            obtain ⟨zz51, f3, tc, zz52⟩ := hva.get i hci
            revert zz51 f3 tc zz52
            intro _ f3 tc zz52
            subst zz52
            rw [hv] at f3
            cases f3
            have hcw : look fs c ≠ none := look_keys.mpr (hnp.mem_iff.mp (List.mem_filter.mp (List.mem_of_getElem? hci)).1)
            obtain ⟨x, tx', f4, f5⟩ : ∃ x t, look fs c = some x ∧ valueAt fkv (tx c) = some (.str (tx x) t) := (e5.at c).elim (fun h => absurd h.1 hcw) id
            revert x tx' f4 f5
            intro x tx' f4 f5
            have f6 : valueAt kvs (tx c) = none := by
              rcases f2.at c with ⟨q1, q2⟩ | ⟨y, ty, q1, q2⟩
              · exact q2
              · rw [hput i c hci] at q1; cases q1
            have hkl : kvs.length ≤ sizeLine := le_sizeLine (by rw [← f2.length, hpl, List.length_take]; omega)
            have hJd : @Ne Nat J dm := fun e => hoff8 (dm, o') (by first | k_extra "mm" | simp) e.symm
            have f7 := f2.put (x := x) (t := tx') f6
            k_steps
            rename Fr _ _ _ _ => FP
            rename News _ _ _ _ => NP
            rename Obj.IsDictOf _ _ _ => HP
            show AgainF _ _ _ _ _ _ _ _
            exact AgainF.next FP NP (Sub.cons List.mem_cons_self (fun _ h => nomatch h)) (Sub.skip Sub.refl) (by
              refine all_cons ?_ (all_cons ?_ (all_cons ?_ (all_cons ?_ (all_cons ?_ (all_cons ?_ (fun p hp => ?_))))))
              · intro q hq
                rw [List.mem_singleton.mp hq]
                exact hoff8 _ (by first | k_extra "mm" | simp)
              · intro q hq
                rw [List.mem_singleton.mp hq]
                exact hoff8 _ (by first | k_extra "mm" | simp)
              · intro q hq
                rw [List.mem_singleton.mp hq]
                exact hoff8 _ (by first | k_extra "mm" | simp)
              · intro q hq
                rw [List.mem_singleton.mp hq]
                exact hoff8 _ (by first | k_extra "mm" | simp)
              · intro q hq
                rw [List.mem_singleton.mp hq]
                exact hoff8 _ (by first | k_extra "mm" | simp)
              · intro q hq
                rw [List.mem_singleton.mp hq]
                exact hoff8 (dm, o') (by first | k_extra "mm" | simp)
              · intro q hq
                rw [List.mem_singleton.mp hq]
                refine hoff8 p ?_
                k_extra "mm") ⟨by k_extra "kept", _, _, HP, by
                rw [List.take_add_one, hci, List.foldl_append]
                show DV (putL fs _ c) _
                rw [putL, f4]; exact f7, rfl⟩
          case doneP =>
            intro m' n' h8 tk8
            intro zz53
            obtain ⟨hk8, o', kvs, f1, f2, zz54⟩ := zz53
            revert hk8 o' kvs f1 f2 zz54
            intro hk8 o' kvs f1 f2 zz54
            subst zz54
            intro F' N'
            have F3 := fr_to F' (mapK_eq hk8)
            clear F' F9 N9 NN
            dsimp only [mapK] at F3
            dsimp only
            k_steps
            dsimp only
            rename Fr _ _ _ _ => FA
            rename News _ _ _ _ => NA
            refine Stop.go (sorted_list (ls := sn ++ (nw.filter fun x => !decide (x ∈ sn))) FA NA List.mem_cons_self (e3.append hva) (by rw [List.length_append]; omega) ?_)
            intro D2 h6 vs2 sn2 ce FB NB l2 hv2 hp2 hr2
            have hD2 : ∀ p ∈ own ++ b, @LT.lt Nat _ p.1 D2 := fun p hp => l2 p (by simp only [List.mem_cons]; repeat (first | exact hp | apply Or.inr))
            have hD2m : @LT.lt Nat _ dm D2 := l2 (dm, o') (by k_mem)
            k_lt l2
            dsimp only
            k_steps
            rename_i o9 FC NC d9
            refine Stop.go ?_
            have NN : News g3 L' _ ((D2, W.listOf vs2.toArray ce) :: (la9, W.listOf va9.toArray ca9) :: (I, oI) :: (dm, o') :: (L' + 1 + 1 + 1 + 1, oF2) :: (L' + 1 + 1 + 1, o9) :: (L' + 1 + 1, oM2) :: (L' + 1, oC) :: own ++ b) := fun p hp => NC p ((show ∀ q ∈ ((D2, W.listOf vs2.toArray ce) :: (la9, W.listOf va9.toArray ca9) :: (I, oI) :: (dm, o') :: (L' + 1 + 1 + 1 + 1, oF2) :: (L' + 1 + 1 + 1, o9) :: (L' + 1 + 1, oM2) :: (L' + 1, oC) :: (own ++ b)), q ∈ _ from by k_extra "sub_my") p hp)
            have hgg : ∀ k, k ∈ (nw.filter fun x => !decide (x ∈ sn)) → look fs k ≠ none := fun k hk => look_keys.mpr (hnp.mem_iff.mp (List.mem_filter.mp hk).1)
            have hnext := RF.next (Y := Y) e9 hnp hfn hp2 hr2 hst1 hst2 hmono hfe
            refine fn_use (rests w f g _ og R Y Dm Inv need hR hY lc la9 dm cc ca9 code (nw.filter fun x => !decide (x ∈ sn)) cvs va9 _ kvs o' ((D2, W.listOf vs2.toArray ce) :: (la9, W.listOf va9.toArray ca9) :: (I, oI) :: (dm, o') :: (L' + 1 + 1 + 1 + 1, oF2) :: (L' + 1 + 1 + 1, o9) :: (L' + 1 + 1, oM2) :: (L' + 1, oC) :: own) b k ?a1 hcv ?a2 hva ?a3 f1 (by rw [← hva.length, List.take_length] at f2; exact f2) ?a4 ?a5 ?a6 e10 ?a7 ?a8 ?a9) B3 FC X3 NN TT3 C13 C23 (by rfl) (by k_extra "dep") (by k_extra "dep") ?_
            case a1 => simp [hc]
            case a2 => simp
            case a3 => simp
            case a4 =>
              intro wd hw
              rw [put_look, if_pos hw]
              cases look ms wd <;> simp
            case a5 =>
              intro k x hk
              exact hlen t _ _ (by omega) (by
                rw [put_look] at hk
                cases q : look ms k with
                | some y => rw [q] at hk; cases hk; exact (e9.msg _ _ q).2
                | none =>
                  rw [q, Option.none_or] at hk
                  by_cases e : k ∈ (nw.filter fun x => !decide (x ∈ sn))
                  · rw [if_pos e] at hk
                    obtain ⟨y, hy⟩ := Option.ne_none_iff_exists'.mp (hgg k e)
                    revert y hy
                    intro y hy
                    rw [hy] at hk; cases hk
                    exact (e9.found _ _ hy).2
                  · rw [if_neg e] at hk; cases hk)
            case a6 =>
              intro wd hw c hcm
              have hwU : wd ∈ U := hfU wd (look_keys.mp (hgg wd hw))
              have h1 := hdm wd c (.inr hwU) (.inl hcm)
              have h2 := hdm c wd (.inl hcm) (.inr hwU)
              exact ⟨h1.1, h2.1, h1.2, h2.2⟩
            case a7 =>
              have : 2 * code.length * (nw.filter fun x => !decide (x ∈ sn)).length ≤ 2 * 3 * 6 := Nat.mul_le_mul (Nat.mul_le_mul (Nat.le_refl _) hcl) hgl6
              omega
            case a8 =>
              intro q hq p hp
              have hp' : p ∈ own ++ b := List.mem_append_right _ hp
              simp only [List.mem_cons] at hq
              rcases hq with rfl | rfl | rfl | rfl | rfl | rfl | rfl | rfl | hq
              · exact Nat.ne_of_lt (hD2 p hp')
              · exact hgl p hp'
              · exact hoff p (by first | k_extra "mm" | simp [hp])
              · exact hgm p hp'
              · exact hg4 p hp'
              · exact hg3 p hp'
              · exact e15 (L' + 1 + 1, oM2) (by first | k_extra "mm" | simp) p hp
              · exact e15 (L' + 1, oC) (by first | k_extra "mm" | simp) p hp
              · exact e15 q (by first | k_extra "mm" | simp [hq]) p hp
            case a9 => exact fun p hp => by simp [hneed p hp]
            intro r' n' h4 tk4 FD ND
            intro zz55
            obtain ⟨a9, oa, kva, b2, k2, zz56, i1, i2, i3, i4, i5, i6, zz57⟩ := zz55
            revert a9 oa kva b2 k2 zz56 i1 i2 i3 i4 i5 i6 zz57
            intro a9 oa kva b2 k2 zz56 i1 i2 i3 i4 i5 i6 zz57
            subst zz56 zz57
            dsimp only [List.cons_append] at ND ⊢
            have hD2a : @LT.lt Nat _ D2 a9 := i6 (D2, _) List.mem_cons_self
            have hA1 : @LT.lt Nat _ la9 a9 := i6 (la9, W.listOf va9.toArray ca9) (by first | k_extra "mm" | simp)
            have hg5 : ∀ p ∈ own ++ b2, p.1 ≠ L' + 1 + 1 + 1 + 1 := fun p hp => (List.mem_append.mp hp).elim (fun h => by have := hown p h; show @Ne Nat p.1 _; omega) (fun h => i5 (L' + 1 + 1 + 1 + 1, oF2) (by first | k_extra "mm" | simp) p h)
            have hIa : @Ne Nat I a9 := Nat.ne_of_lt (i6 (I, oI) (by first | k_extra "mm" | simp))
            have hna : (a9 == sysModules) = false := by
              have h1 : @LT.lt Nat _ dm a9 := i6 (dm, o') (by first | k_extra "mm" | simp)
              have h2 : @LT.lt Nat _ L' a9 := by omega
              have h3 : @LT.lt Nat _ sysModules a9 := Nat.lt_trans hL4 h2
              exact beq_false_of_ne (fun e => by rw [e] at h3; exact absurd h3 (Nat.lt_irrefl _))
            k_steps
            rename_i o8 FE NE d8
            have hk2 : k2 ≤ kb + 9 + 36 * (t + 1) := by
              have : 2 * code.length * (nw.filter fun x => !decide (x ∈ sn)).length ≤ 2 * 3 * 6 := Nat.mul_le_mul (Nat.mul_le_mul (Nat.le_refl _) hcl) hgl6
              omega
            refine AgainS.next (T2.trans T3) B3 D3' FE NE ?b1 ?b2 ?b3 ⟨rfl, rfl, _, kvs, o', sn2, vs2, ce, _, kva, oa, D2, a9, b2, k2, oM2, o9, o8, f1, by rw [← hva.length, List.take_length] at f2; exact f2, hv2, i1, i2, d8, d9, e8, (fun h => h.elim), hnext, i3, hk2, hD2m, hD2a, hna, ?b4, rfl⟩
            case b1 => exact Sub.cons (by k_mem) (fun _ h => nomatch h)
            case b2 => k_extra "sub_my"
            case b3 =>
              refine all_cons ?_ (all_cons ?_ (all_cons ?_ (all_cons ?_ (all_cons ?_ (all_cons ?_ (all_cons ?_ (fun p hp => ?_)))))))
              · intro q hq
                rw [List.mem_singleton.mp hq]
                exact hIa.symm
              · intro q hq
                rw [List.mem_singleton.mp hq]
                exact Nat.ne_of_gt (l2.2.2.2.1)
              · intro q hq
                rw [List.mem_singleton.mp hq]
                exact hId.symm
              · intro q hq
                rw [List.mem_singleton.mp hq]
                exact hI4.symm
              · intro q hq
                rw [List.mem_singleton.mp hq]
                exact hI3.symm
              · intro q hq
                rw [List.mem_singleton.mp hq]
                exact hoff (L' + 1 + 1, oM2) (by first | k_extra "mm" | simp)
              · intro q hq
                rw [List.mem_singleton.mp hq]
                exact hoff (L' + 1, oC) (by first | k_extra "mm" | simp)
              · intro q hq
                rw [List.mem_singleton.mp hq]
                rcases List.mem_append.mp hp with hp | hp
                · exact hoff p (by first | k_extra "mm" | simp [hp])
                · exact i5 (I, oI) (by first | k_extra "mm" | simp) p hp
            case b4 =>
              refine all_cons ?_ (all_cons ?_ (all_cons ?_ (all_cons ?_ (all_cons ?_ (all_cons ?_ (all_cons ?_ (fun q hq => ?_)))))))
              · intro p hp
                exact i5 (a9, oa) (by first | k_extra "mm" | simp) p hp
              · intro p hp
                exact i5 (D2, W.listOf vs2.toArray ce) (by first | k_extra "mm" | simp) p hp
              · intro p hp
                exact i5 (dm, o') (by first | k_extra "mm" | simp) p hp
              · intro p hp
                exact i5 (L' + 1 + 1 + 1 + 1, oF2) (by first | k_extra "mm" | simp) p hp
              · intro p hp
                exact i5 (L' + 1 + 1 + 1, o9) (by first | k_extra "mm" | simp) p hp
              · intro p hp
                exact i5 (L' + 1 + 1, oM2) (by first | k_extra "mm" | simp) p hp
              · intro p hp
                exact i5 (L' + 1, oC) (by first | k_extra "mm" | simp) p hp
              · intro p hp
                exact i5 q (by first | k_extra "mm" | simp [hq]) p hp
theorem main (hR : RestC w 870 f ⟨foc, fod, .func ffd, fsl⟩ R Dm Inv) (hY : LayC w 870 g og Y need) (hc : (lc, W.listOf cvs.toArray cc) ∈ own) (hcv : F2 TxtV code cvs) (hcl : code.length ≤ 3) (hU : U.length ≤ 6) (hinit : ∀ a ∈ code, ∀ b ∈ code, R a b ≠ [] → R a b ∈ U ∧ Dg 0 (R a b) b) (hst1 : ∀ n wd m c, Dg n wd m → wd ∈ U → c ∈ code → R wd c ≠ [] → R wd c ∈ U ∧ Dg (n + 1) (R wd c) (Y m (R wd c))) (hst2 : ∀ n wd m c, Dg n wd m → wd ∈ U → c ∈ code → R c wd ≠ [] → R c wd ∈ U ∧ Dg (n + 1) (R c wd) m) (hmono : ∀ n wd m, Dg n wd m → Dg (n + 1) wd m) (hlen : ∀ n wd m, n ≤ 8 → Dg n wd m → m.length ≤ 200) (hdm : ∀ a b, (a ∈ code ∨ a ∈ U) → (b ∈ code ∨ b ∈ U) → Dm a b ∧ (R a b).length ≤ 200) (hI : Inv kb bs) (hkb : kb + 1000 < 1000000) (hap : Apart own bs) (hneed : ∀ p ∈ need, p ∈ own) : FnSG w 850 159 [.ref lc, .ref f, .ref g] (own ++ bs) (RoundsP R code Dg Inv kb own) p loose mean mg mb dp un gd cn cs a ccd cl outer A₀ base h₀ L m s Q E := by
  intro B F N X T C1 C2 D hk hd hu hret
  refine wpAny_call ?_
  with_unfolding_all refine' code_myS (binds := [(PySem.Str.ofString "code", .ref lc), (PySem.Str.ofString "rest", .ref f), (PySem.Str.ofString "lay", .ref g)]) B F N X T D ?kA ?kF ?kK ?ko ?est ?kcd ?kroom ?kbind ?kloc ?knd (fun g₁ l₁ h₁ t₁ => pick_all evne (P := fun e => BH e.g e.l e.h e.t) ?bd ⟨g₁, l₁, h₁, t₁⟩) ?kco ?kgen ?kkind
  (case kA => exact rfl)
  (case kF => exact rfl)
  (case kK => exact hk)
  (case ko => k_is)
  (case est => exact rfl)
  (case kcd => k_is)
  (case kroom => (show dp < 1000; omega))
  (case kbind => exact BindsTo.of_eq rfl)
  (case kloc => exact kindsX rfl)
  (case knd => decide +kernel)
  (case kco => exact rfl)
  (case kgen => exact rfl)
  (case kkind => exact rfl)
  (case bd => with_unfolding_all exact body hR hY hc hcv hcl hU hinit hst1 hst2 hmono hlen hdm hI hkb hap hneed B X T C1 C2 D hk hd hu hret)
theorem goal_q : Goal q := by with_unfolding_all exact main
end Krounds
theorem rounds (w : World) (f g : Addr) (of og : Obj) (R Y : List Nat → List Nat → List Nat) (Dm : List Nat → List Nat → Prop) (Inv : Nat → Led → Prop) (need : Led) (hR : RestC w 870 f of R Dm Inv) (hY : LayC w 870 g og Y need)
    (lc : Addr) (cc : Nat) (code : List (List Nat)) (cvs : List Value) (own bs : Led) (kb : Nat) (U : List (List Nat)) (Dg : Nat → List Nat → List Nat → Prop)
    (hc : (lc, W.listOf cvs.toArray cc) ∈ own) (hcv : F2 TxtV code cvs) (hcl : code.length ≤ 3) (hU : U.length ≤ 6)
    (hinit : ∀ a ∈ code, ∀ b ∈ code, R a b ≠ [] → R a b ∈ U ∧ Dg 0 (R a b) b)
    (hst1 : ∀ n wd m c, Dg n wd m → wd ∈ U → c ∈ code → R wd c ≠ [] → R wd c ∈ U ∧ Dg (n + 1) (R wd c) (Y m (R wd c)))
    (hst2 : ∀ n wd m c, Dg n wd m → wd ∈ U → c ∈ code → R c wd ≠ [] → R c wd ∈ U ∧ Dg (n + 1) (R c wd) m)
    (hmono : ∀ n wd m, Dg n wd m → Dg (n + 1) wd m) (hlen : ∀ n wd m, n ≤ 8 → Dg n wd m → m.length ≤ 200)
    (hdm : ∀ a b, (a ∈ code ∨ a ∈ U) → (b ∈ code ∨ b ∈ U) → Dm a b ∧ (R a b).length ≤ 200)
    (hI : Inv kb bs) (hkb : kb + 1000 < 1000000) (hap : Apart own bs) (hneed : ∀ p ∈ need, p ∈ own) :
    FnS w 850 159 [.ref lc, .ref f, .ref g] (own ++ bs) (RoundsP R code Dg Inv kb own) := by
  obtain ⟨foc, fod, ffd, fsl, rfl⟩ := hR.fn
  exact fun p loose mean mg mb dp un gd cn cs a ccd cl outer A₀ base h₀ L m s Q E => pick_all Krounds.ne (P := Krounds.Goal) Krounds.goal_q ⟨w, f, g, foc, fod, ffd, fsl, og, R, Y, Dm, Inv, need, lc, cc, code, cvs, own, bs, kb, U, Dg, p, loose, mean, mg, mb, dp, un, gd, cn, cs, a, ccd, cl, outer, A₀, base, h₀, L, m, s, Q, E⟩ hR hY hc hcv hcl hU hinit hst1 hst2 hmono hlen hdm hI hkb hap hneed
end S_FRo
section S_Fm
noncomputable def rightDef (i : Nat) : Option Stmt := match stm 28 with
  | .FunctionDef _ _ b _ _ _ _ _ _ _ => b[i]?
  | _ => none
noncomputable def fobjN (i : Nat) (clos : List (PySem.Str × Addr)) (qual : PySem.Str) (doc pm : Value) (c : Addr) (ct : Value) : Obj := match rightDef i with
  | some (.FunctionDef nm ar b _ _ _ sc _ _ _) => fnMade nm qual ar b sc clos doc pm c ct
  | _ => default
section
variable {prog : Program} {w : World} {A A₀ : Around} {s : Shared} {h₀ base : Heap} {m : PySem.Str → Option Value} {news : Led} {L : Addr}
theorem nest_my {p : Program} {loose : List PySem.Str} {mean : ExcName → Option Value} {mg mb : PySem.Str → Option Value} {env : Env} {outer : List Env} {R : Result → Shared → Prop} {i : Nat} {doc pm ctv : Value} {c' : Addr} {f : Addr} {args : Args} {binds : List (PySem.Str × Value)} {cl : List (PySem.Str × Addr)} {qual : PySem.Str}
    {st : Stmt} {rest : List Stmt} {nm bd : PySem.Str} {ar : Arguments} {sc : Scope} {dl : List Expr} {rt : Option Expr} {tps : List TypeParam} {tsc : Option Scope} {ps : Pos}
    (B : Below A₀ base outer h₀) (F : Fr h₀ L s.heap m) (X₀ : (K0 w.params).In h₀) (N : News h₀ L s.heap news) (T : Top p loose mean mg mb h₀) (C1 : CodeHd h₀ 61 57) (C2 : CodeHd h₀ 170 168) (hA : A.frames = some (env :: outer)) (hf : env.frame = some L) (hke : env.scope.kind = .function)
    (ho : (f, fobjN i cl qual doc pm c' ctv) ∈ news) (est : rightDef i = some (.FunctionDef nm ar (st :: rest) dl rt tps sc tsc bd ps)) (hcd : s.heap.CodeRec (.ref c') qual) (hroom : A.depth < recursionLimit)
    (hbind : BindsTo s (fnX nm qual ar (st :: rest) sc cl .none .none doc pm none (.ref c') ctv) args binds.reverse) (hloc : ∀ y ∈ binds.reverse, sc.names.lookup y.1 = some .local)
    (h : ∀ g L' h₁ tk₁, Fr h₀ L g m → Fr g L' h₁ (fun y => binds.lookup y) → News g L' h₁ news → Below A base (env :: outer) g → (K0 w.params).In g → Top p loose mean mg mb g → CodeHd g 61 57 → CodeHd g 170 168 → (∀ q ∈ news, q.1 < L') →
      wpAny (model prog w) (A.deeper (envX qual sc L' f (.ref c') cl)) (execs (st :: rest) (envX qual sc L' f (.ref c') cl))
        (fun fl s' => LeaveK h₀ L m g R (match fl with | .ret v => v | _ => .none) s')
        (fun e s' => wpAny (model prog w) (A.deeper (envX qual sc L' f (.ref c') cl)) (leaving (envX qual sc L' f (.ref c') cl) e) (fun _ s'' => R (.error e) s'') (fun e' s'' => R (.error e') s'') s')
        { s with heap := h₁, toks := tk₁ })
    (hco : sc.isCoroutine = false) (hgen : sc.isGenerator = false) (hk : sc.kind = .function)
    (hcell : ∀ x ∈ sc.names, x.2 ≠ .cell) : codeAny (model prog w) A (.call (.ref f) args) R s := by
  unfold fobjN at ho
  rw [est] at ho
  exact callX_plain (cl := cl) B F N T.nolimit hA hf hke (N _ ho).1 rfl hcd hroom hbind hloc (fun g L' h₁ FG F' N' B' st lt => h g L' h₁ _ FG (by simpa using F') N' B' (X₀.keeps st) (T.keeps st) (C1.keeps st) (C2.keeps st) lt) hcell hco hgen hk
end
local macro_rules | `(tactic| walk_at "call ref") => `(tactic| (refine Stop.mk ?_))
theorem fromL (w : World) (f1 c1 cT : Addr) (ocT oc1 : Obj) (qual : PySem.Str) (doc pm ct : Value) (vs1 : Array Value) (tq : Tok) (ws qs : List Nat) (t0 t1 : Tok) (ps : Array Value) (ok : TabOk ps) (d : Addr) (o : Obj) (kvs : List (PySem.Str × Value)) (kr rest : Led)
    (m1 : (f1, fobjN 2 [(PySem.Str.ofString "taken", cT)] qual doc pm c1 ct) ∈ rest) (m2 : (c1, oc1) ∈ rest) (hd1 : oc1.data = .fields vs1) (hv1 : vs1[1]? = some (.str qual tq)) (m3 : (cT, ocT) ∈ rest) (hcT : ocT.data = .cell (some (.ref d)))
    (hd57 : @LT.lt Nat _ 57 d) (lo : (d == sysModules) = false) (hdT : o.IsDictOf (PySem.strKind P0 w) kvs) (hsz : kvs.length ≤ sizeLine) (hkT : TakenOk d kvs kr) (hrest : ∀ p ∈ rest, p.1 ≠ 57 ∧ p.1 ≠ d)
    (hs : ∀ c ∈ ws, c ∈ signs17) (hq : ∀ c ∈ qs, c ∈ signs17) (hlen : qs.length ≤ 100) (hwl : ws.length ≤ 29) :
    Fn w 870 f1 [.str (tx ws) t0, .str (tx qs) t1] ((57, tabObj ps) :: (d, o) :: (kr ++ rest)) (fun r n' => (∃ t, r = .str (tx (restL ws qs)) t) ∧ ∃ ps' o' kvs' kr', TabOk ps' ∧ o'.IsDictOf (PySem.strKind P0 w) kvs' ∧ kvs'.length ≤ kvs.length + 1 ∧ TakenOk d kvs' kr' ∧ (∀ p ∈ kr', p ∈ kr ∨ ∀ q ∈ rest, q.1 < p.1) ∧ n' = (57, tabObj ps') :: (d, o') :: (kr' ++ rest)) := by
  have mem : ∀ {x : Addr × Obj}, x ∈ rest → x ∈ (57, tabObj ps) :: (d, o) :: (kr ++ rest) := fun h => by simp [h]
  have q1 := mem m1
  have q3 := mem m3
  w_on
  refine fn_in ?_
  intro p loose mean mg mb dp un gd cn cs a ccd cl outer A₀ base h₀ L m shQ sgQ sdQ stQ soQ Q E B F X N T C1 C2 hk hd hu hret
  with_unfolding_all refine' nest_my (binds := [(PySem.Str.ofString "other", .str (tx qs) t1), (PySem.Str.ofString "one", .str (tx ws) t0)]) B F X N T C1 C2 ?kA ?kF ?kK q1 ?est (codeRec_news N (mem m2) hd1 hv1) ?kroom ?kbind ?kloc ?_ ?kco ?kgen ?kkind ?kcell
  (case kA => exact rfl)
  (case kF => exact rfl)
  (case kK => exact hk)
  (case est => exact rfl)
  (case kroom => (show dp < 1000; omega))
  (case kbind => exact BindsTo.of_eq rfl)
  (case kloc => exact locs rfl)
  (case kco => exact rfl)
  (case kgen => exact rfl)
  (case kkind => exact rfl)
  (case kcell => decide)
  intro g' L' h' tk' FG' F' N' B' X' T' C1' C2' lt'
  clear F N FG'
  (try dsimp only)
  (try k_fold)
  k_steps
  refine Stop.go ?_
  refine fn_use (behind w ws qs _ _ ps ok d o kvs kr rest hd57 lo hdT hsz hkT hrest hs hq hlen hwl) B' F' X' N' T' C1' C2' (by rfl) (by k_extra "dep") (by k_extra "dep") ?_
  rintro r' n' h7 tk7 F7 N7 ⟨⟨t5, rfl⟩, z⟩
  k_steps
  exact hret _ _ _ _ (by assumption) (by assumption) ⟨⟨t5, rfl⟩, z⟩
theorem fromR (w : World) (f1 c1 cT : Addr) (ocT oc1 : Obj) (qual : PySem.Str) (doc pm ct : Value) (vs1 : Array Value) (tq : Tok) (ws qs : List Nat) (t0 t1 : Tok) (d : Addr) (o : Obj) (kvs : List (PySem.Str × Value)) (rest : Led)
    (m1 : (f1, fobjN 3 [(PySem.Str.ofString "asked", cT)] qual doc pm c1 ct) ∈ rest) (m2 : (c1, oc1) ∈ rest) (hd1 : oc1.data = .fields vs1) (hv1 : vs1[1]? = some (.str qual tq)) (m3 : (cT, ocT) ∈ rest) (hcT : ocT.data = .cell (some (.ref d)))
    (lo : (d == sysModules) = false) (hdT : o.IsDictOf (PySem.strKind P0 w) kvs) (hsz : kvs.length ≤ sizeLine) (hkT : AskedOk kvs) (hrest : ∀ p ∈ rest, p.1 ≠ d) (hw : Wd ws)
    (hs : ∀ c ∈ ws, c ∈ signs17) (hq : ∀ c ∈ qs, c ∈ signs17) (hlen : qs.length ≤ 100) (hwl : ws.length ≤ 29) :
    Fn w 870 f1 [.str (tx ws) t0, .str (tx qs) t1] ((d, o) :: rest) (fun r n' => (∃ t, r = .str (tx (aheadL ws qs)) t) ∧ ∃ o' kvs', o'.IsDictOf (PySem.strKind P0 w) kvs' ∧ kvs'.length ≤ kvs.length + 1 ∧ AskedOk kvs' ∧ n' = (d, o') :: rest) := by
  have mem : ∀ {x : Addr × Obj}, x ∈ rest → x ∈ (d, o) :: rest := fun h => by simp [h]
  have q1 := mem m1
  have q3 := mem m3
  w_on
  refine fn_in ?_
  intro p loose mean mg mb dp un gd cn cs a ccd cl outer A₀ base h₀ L m shQ sgQ sdQ stQ soQ Q E B F X N T C1 C2 hk hd hu hret
  with_unfolding_all refine' nest_my (binds := [(PySem.Str.ofString "other", .str (tx qs) t1), (PySem.Str.ofString "one", .str (tx ws) t0)]) B F X N T C1 C2 ?kA ?kF ?kK q1 ?est (codeRec_news N (mem m2) hd1 hv1) ?kroom ?kbind ?kloc ?_ ?kco ?kgen ?kkind ?kcell
  (case kA => exact rfl)
  (case kF => exact rfl)
  (case kK => exact hk)
  (case est => exact rfl)
  (case kroom => (show dp < 1000; omega))
  (case kbind => exact BindsTo.of_eq rfl)
  (case kloc => exact locs rfl)
  (case kco => exact rfl)
  (case kgen => exact rfl)
  (case kkind => exact rfl)
  (case kcell => decide)
  intro g' L' h' tk' FG' F' N' B' X' T' C1' C2' lt'
  clear F N FG'
  (try dsimp only)
  (try k_fold)
  k_steps
  refine Stop.go ?_
  refine fn_use (ahead w ws qs _ _ d o kvs rest lo hdT hsz hkT hrest hw hs hq hlen hwl) B' F' X' N' T' C1' C2' (by rfl) (by k_extra "dep") (by k_extra "dep") ?_
  rintro r' n' h7 tk7 F7 N7 ⟨⟨t5, rfl⟩, z⟩
  k_steps
  exact hret _ _ _ _ (by assumption) (by assumption) ⟨⟨t5, rfl⟩, z⟩
end S_Fm
section S_Fm2
theorem Fn.swap {w : World} {d : Nat} {f : Addr} {vs : List Value} {news news' : Led} {Post Post' : Value → Led → Prop} (h : Fn w d f vs news Post) (hs : ∀ p ∈ news, p ∈ news') (hp : ∀ r n, Post r n → ∃ n', Post' r n' ∧ ∀ p ∈ n', p ∈ n) : Fn w d f vs news' Post' := by
  intro p loose mean mg mb dp un gd cn cs a ccd cl outer A₀ base h₀ L m s Q E B F X N T C1 C2 hk hd hu ret
  exact h p loose mean mg mb dp un gd cn cs a ccd cl outer A₀ base h₀ L m s Q E B F X (fun p hp => N p (hs p hp)) T C1 C2 hk hd hu fun r n h' tk F' N' P => let ⟨n', p', s'⟩ := hp r n P; ret r n' h' tk F' (fun p hp => N' p (s' p hp)) p'
inductive InvR (w : World) (dT dA : Addr) (fix : Led) (k : Nat) (b : Led) : Prop
  | mk (ps : Array Value) (oT oA : Obj) (kvT kvA : List (PySem.Str × Value)) (kr : Led) (c1 : TabOk ps) (c2 : oT.IsDictOf (PySem.strKind P0 w) kvT) (c3 : oA.IsDictOf (PySem.strKind P0 w) kvA) (c4 : kvT.length ≤ k) (c5 : kvA.length ≤ k) (c6 : TakenOk dT kvT kr) (c7 : AskedOk kvA) (c8 : (∀ p ∈ kr, @LT.lt Nat _ dA p.1)) (c9 : b = (57, tabObj ps) :: (dT, oT) :: (dA, oA) :: (kr ++ fix)) : InvR w dT dA fix k b
noncomputable def DmR (a b : List Nat) : Prop := Wd a ∧ (∀ c ∈ a, c ∈ signs17) ∧ (∀ c ∈ b, c ∈ signs17) ∧ b.length ≤ 100 ∧ a.length ≤ 29
structure Fix (dT dA : Addr) (fix : Led) : Prop where
  t57 : @LT.lt Nat _ 57 dT
  ta : @LT.lt Nat _ dT dA
  ts : (dT == sysModules) = false
  as : (dA == sysModules) = false
  off : ∀ p ∈ fix, p.1 ≠ 57 ∧ p.1 ≠ dT ∧ p.1 ≠ dA
structure Made (i : Nat) (x : PySem.Str) (d f c1 cT : Addr) (fo : Obj) (fix : Led) : Prop where
  ob : ∃ qual doc pm ct, fo = fobjN i [(x, cT)] qual doc pm c1 ct ∧ ∃ oc1 vs1 tq, (c1, oc1) ∈ fix ∧ oc1.data = .fields vs1 ∧ vs1[1]? = some (.str qual tq)
  m1 : (f, fo) ∈ fix
  m3 : ∃ o, (cT, o) ∈ fix ∧ o.data = .cell (some (.ref d))
section
variable {w : World} {dT dA f c1 cT : Addr} {fo : Obj} {fix : Led}
theorem restC_L (X : Fix dT dA fix) (M : Made 2 (PySem.Str.ofString "taken") dT f c1 cT fo fix) : RestC w 870 f fo restL DmR (InvR w dT dA fix) where
  fn := by
    obtain ⟨qual, doc, pm, ct, e, _⟩ := M.ob
    rw [e]
    with_unfolding_all exact ⟨_, _, _, _, rfl⟩
  mem := by
    rintro k base ⟨ps, oT, oA, kvT, kvA, kr, _, _, _, _, _, _, _, _, rfl⟩
    simp [M.m1]
  call := by
    rintro k base top one other t1 t2 ⟨ps, oT, oA, kvT, kvA, kr, h1, h2, h3, h4, h5, h6, h7, h8, rfl⟩ hk hap ⟨d1, d2, d3, d4, d5⟩
    obtain ⟨qual, doc, pm, ct, rfl, oc1, vs1, tq, a1, a2, a3⟩ := M.ob
    obtain ⟨o3, m3, m4⟩ := M.m3
    have hrest : ∀ p ∈ (dA, oA) :: (fix ++ top), p.1 ≠ 57 ∧ p.1 ≠ dT := by
      intro p hp
      rcases List.mem_cons.mp hp with rfl | hp
      · exact ⟨fun e => absurd (Nat.lt_trans X.t57 X.ta) (e ▸ Nat.lt_irrefl _), (Nat.ne_of_lt X.ta).symm⟩
      · rcases List.mem_append.mp hp with hp | hp
        · exact ⟨(X.off p hp).1, (X.off p hp).2.1⟩
        · exact ⟨fun e => hap p hp (57, tabObj ps) (by simp) e.symm, fun e => hap p hp (dT, oT) (by simp) e.symm⟩
    refine (fromL w f c1 cT o3 oc1 qual doc pm ct vs1 tq one other t1 t2 ps h1 dT oT kvT kr ((dA, oA) :: (fix ++ top)) (by simp [M.m1]) (by simp [a1]) a2 a3 (by simp [m3]) m4 X.t57 X.ts h2 (le_sizeLine (by omega)) h6 hrest d2 d3 d4 d5).swap ?_ ?_
    · intro p hp
      simp only [List.mem_cons, List.mem_append] at hp ⊢
      rcases hp with hp | hp | hp | hp | hp | hp <;> simp [hp]
    · rintro r n ⟨hr, ps', o', kv', kr', g1, g2, g3, g4, g5, rfl⟩
      refine ⟨top ++ ((57, tabObj ps') :: (dT, o') :: (dA, oA) :: (kr' ++ fix)), ⟨hr, _, ⟨ps', o', oA, kv', kvA, kr', g1, g2, h3, by omega, by omega, g4, h7, ?_, rfl⟩, ?_, rfl⟩, ?_⟩
      · intro p hp
        rcases g5 p hp with h | h
        · exact h8 p h
        · exact h (dA, oA) List.mem_cons_self
      · intro q hq p hp
        have hq' := hap q hq
        simp only [List.mem_cons, List.mem_append] at hp
        rcases hp with rfl | rfl | rfl | hp | hp
        · exact hq' (57, tabObj ps) (by simp)
        · exact hq' (dT, oT) (by simp)
        · exact hq' _ (by simp)
        · rcases g5 p hp with h | h
          · exact hq' p (by simp [h])
          · exact Nat.ne_of_gt (h q (by simp [hq]))
        · exact hq' p (by simp [hp])
      · intro p hp
        simp only [List.mem_cons, List.mem_append] at hp ⊢
        rcases hp with hp | hp | hp | hp | hp | hp <;> simp [hp]
theorem restC_R (X : Fix dT dA fix) (M : Made 3 (PySem.Str.ofString "asked") dA f c1 cT fo fix) : RestC w 870 f fo aheadL DmR (InvR w dT dA fix) where
  fn := by
    obtain ⟨qual, doc, pm, ct, e, _⟩ := M.ob
    rw [e]
    with_unfolding_all exact ⟨_, _, _, _, rfl⟩
  mem := by
    rintro k base ⟨ps, oT, oA, kvT, kvA, kr, _, _, _, _, _, _, _, _, rfl⟩
    simp [M.m1]
  call := by
    rintro k base top one other t1 t2 ⟨ps, oT, oA, kvT, kvA, kr, h1, h2, h3, h4, h5, h6, h7, h8, rfl⟩ hk hap ⟨d1, d2, d3, d4, d5⟩
    obtain ⟨qual, doc, pm, ct, rfl, oc1, vs1, tq, a1, a2, a3⟩ := M.ob
    obtain ⟨o3, m3, m4⟩ := M.m3
    have hrest : ∀ p ∈ (57, tabObj ps) :: (dT, oT) :: (kr ++ (fix ++ top)), p.1 ≠ dA := by
      intro p hp
      simp only [List.mem_cons, List.mem_append] at hp
      rcases hp with rfl | rfl | hp | hp | hp
      · exact Nat.ne_of_lt (Nat.lt_trans X.t57 X.ta)
      · exact Nat.ne_of_lt X.ta
      · exact (Nat.ne_of_lt (h8 p hp)).symm
      · exact (X.off p hp).2.2
      · exact fun e => hap p hp (dA, oA) (by simp) e.symm
    refine (fromR w f c1 cT o3 oc1 qual doc pm ct vs1 tq one other t1 t2 dA oA kvA ((57, tabObj ps) :: (dT, oT) :: (kr ++ (fix ++ top))) (by simp [M.m1]) (by simp [a1]) a2 a3 (by simp [m3]) m4 X.as h3 (le_sizeLine (by omega)) h7 hrest d1 d2 d3 d4 d5).swap ?_ ?_
    · intro p hp
      simp only [List.mem_cons, List.mem_append] at hp ⊢
      rcases hp with hp | hp | hp | hp | hp | hp <;> simp [hp]
    · rintro r n ⟨hr, o', kv', g2, g3, g4, rfl⟩
      refine ⟨top ++ ((57, tabObj ps) :: (dT, oT) :: (dA, o') :: (kr ++ fix)), ⟨hr, _, ⟨ps, oT, o', kvT, kv', kr, h1, h2, g2, by omega, by omega, h6, g4, h8, rfl⟩, ?_, rfl⟩, ?_⟩
      · intro q hq p hp
        have hq' := hap q hq
        simp only [List.mem_cons, List.mem_append] at hp
        rcases hp with rfl | rfl | rfl | hp | hp
        · exact hq' _ (by simp)
        · exact hq' _ (by simp)
        · exact hq' (dA, oA) (by simp)
        · exact hq' p (by simp [hp])
        · exact hq' p (by simp [hp])
      · intro p hp
        simp only [List.mem_cons, List.mem_append] at hp ⊢
        rcases hp with hp | hp | hp | hp | hp | hp <;> simp [hp]
end
end S_Fm2
section S_Tu
section
variable {prog : Program} {w : World} {A A₀ : Around} {E : Value → Shared → Prop} {s : Shared} {env : Env} {base g₀ : Heap} {outer : List Env} {L : Addr}
inductive TupS (A₀ : Around) (base : Heap) (outer : List Env) (g₀ : Heap) (L : Addr) (s : Shared) (J : Nat → (PySem.Str → Option Value) → Led → Prop) (I T : Addr) (n : Nat) (k : Nat) (s' : Shared) : Prop
  | mk (i : Nat) (m : PySem.Str → Option Value) (led : Led) (oI : Obj) (hj : J i m led) (off : ∀ p ∈ led, p.1 ≠ I) (x : XB A₀ base outer g₀ L s m ((I, oI) :: led) s') (hc : oI.cls = .type "tuple_iterator") (hd : oI.data = .fields #[.ref T, .int (i : Nat) 0]) (hi : i ≤ n) (hk : k = n + 1 - i) : TupS A₀ base outer g₀ L s J I T n k s'
theorem tuple_S {target : Expr} {body : List Stmt} {Q : Flow → Shared → Prop} {T : Addr} {oT : Obj} {items : List Value} {m₀ : PySem.Str → Option Value} {news : Led} (J : Nat → (PySem.Str → Option Value) → Led → Prop)
    (hh : A.handled = none) (hE : PassesOwn (model prog w) A env E) (B : Below A₀ base outer g₀) (D : KtsDicts (frs outer) g₀) (F : Fr g₀ L s.heap m₀) (N : News g₀ L s.heap news) (hm : (T, oT) ∈ news) (hc : oT.cls = .type "tuple") (hd : ∃ n, oT.data = .seq items.toArray n)
    (hj : J 0 m₀ news) (hkeep : ∀ i m' led, J i m' led → (T, oT) ∈ led)
    (step : ∀ i v g h' tk' I oI m' led (QQ : Flow → Shared → Prop), items[i]? = some v → J i m' led → (∀ p ∈ led, p.1 ≠ I) → KtsTurn (frs outer) g₀ g → Below A₀ base outer g → KtsDicts (frs outer) g → Fr g L h' m' → News g L h' ((I, oI) :: led) →
      QUp (AgainS A₀ base outer g₀ L s [(I, oI)] (J (i + 1)) Q) QQ →
      wpAny (model prog w) A (assign target env v) (fun _ s₂ => wpAny (model prog w) A (execs body env) QQ E s₂) E { s with heap := h', toks := tk' })
    (done : ∀ g h' tk' m' led, J items.length m' led → KtsTurn (frs outer) g₀ g → Below A₀ base outer g → KtsDicts (frs outer) g → Fr g L h' m' → News g L h' led → Q .next { s with heap := h', toks := tk' }) :
    wpAny (model prog w) A (pyIter (.ref T)) (fun it s₂ => TurnsS prog w A env target body Q E it s₂) E s := by
  have tup : ∀ {g h : Heap} {led : Led}, News g L h led → (T, oT) ∈ led → h.IsTuple T items.toArray := fun N hm => ⟨oT, (N _ hm).1, hc, hd⟩
  refine wpAny_pyIter_tuple (tup N hm) ?_
  obtain ⟨F1, N1, off1⟩ := pushed F N (fun b o e => Heap.get?_push_of_some ({ cls := .type "tuple_iterator", data := .fields #[.ref T, .int 0 0] } : Obj) e) (Heap.get?_none_of_le (Nat.le_refl _)) (Heap.get?_push_size _ rfl)
  refine codeAny_forLoop_any (TupS A₀ base outer g₀ L s J s.heap.objs.size T items.length) ?_ (items.length + 1)
    ⟨0, m₀, news, _, hj, off1, ⟨g₀, _, s.toks, rfl, KtsTurn.refl, B, D, F1, N1⟩, rfl, rfl, Nat.zero_le _, rfl⟩
  rintro k s' ⟨i, m, led, oI, hJ, off, ⟨g, h, tk, rfl, T', B', D', F', N'⟩, hc', hd', hi, rfl⟩
  have hit : h.IsTupleIter s.heap.objs.size T i := ⟨oI, (N' _ List.mem_cons_self).1, hc', hd'⟩
  have htu := tup N' (List.mem_cons_of_mem _ (hkeep _ _ _ hJ))
  by_cases hlt : i < items.length
  · obtain ⟨v, hv⟩ : ∃ v, items[i]? = some v := ⟨_, List.getElem?_eq_getElem hlt⟩
    refine wpAny_pyNext_tuple_item hit htu (x := v) (by simpa using hv) fun h₂ hit₂ hs => ?_
    refine letGo_tupleiter hit₂ ?_
    obtain ⟨o2, e1, e2, e3⟩ := hit₂
    have n0 := N' _ List.mem_cons_self
    have F₂ : Fr g L h₂ m := F'.change hs n0.2.1 n0.2.2
    have N₂ : News g L h₂ ((s.heap.objs.size, o2) :: led) := fun p hp => by
      rcases List.mem_cons.mp hp with rfl | hp
      · exact ⟨e1, n0.2⟩
      · have n1 := N' p (List.mem_cons_of_mem _ hp)
        exact ⟨(hs.2 _ (off p hp)).trans n1.1, n1.2⟩
    refine wpAny_mono (step i v g h₂ _ _ o2 m led _ hv hJ off T' B' D' F₂ N₂ QUp.rfl') (fun _ s₂ h₃ => wpAny_mono h₃ (fun f s₃ h₄ => ?_) hE) hE
    cases f with
    | ret v => exact h₄
    | brk => exact h₄
    | next =>
      obtain ⟨m', led', hj', off', x⟩ := h₄
      exact ⟨items.length + 1 - (i + 1), by omega, i + 1, m', led', o2, hj', fun p hp => off' p hp _ List.mem_cons_self, x, e2, e3, hlt, rfl⟩
    | cont =>
      obtain ⟨m', led', hj', off', x⟩ := h₄
      exact ⟨items.length + 1 - (i + 1), by omega, i + 1, m', led', o2, hj', fun p hp => off' p hp _ List.mem_cons_self, x, e2, e3, hlt, rfl⟩
  · have hin : i = items.length := by omega
    subst hin
    refine wpAny_pyNext_tuple_end hh hit htu (by simp) fun h₂ hs => wpAny_execs_nil ?_
    have n0 := N' _ List.mem_cons_self
    have F₂ : Fr g L h₂ m := ⟨F'.ns.at' fun o e => hs _ o (fun q => n0.2.1 q.symm) e, fun b o e => hs b o (fun q => by rw [q, n0.2.2] at e; cases e) (F'.keep b o e), F'.above⟩
    exact done g h₂ _ m led hJ T' B' D' F₂ fun p hp => ⟨hs _ _ (off p hp) (N' p (List.mem_cons_of_mem _ hp)).1, (N' p (List.mem_cons_of_mem _ hp)).2⟩
end
end S_Tu
section G_La
section S_La
noncomputable abbrev lamArgs (x y : PySem.Str) (p1 p2 : Pos) : Arguments := { posonlyargs := [], args := [{ arg := x, annotation := none, pos := p1 }, { arg := y, annotation := none, pos := p2 }], vararg := none, kwonlyargs := [], kw_defaults := [], kwarg := none, defaults := [] }
noncomputable abbrev lamBody (x y : PySem.Str) (p3 p4 p5 p6 p7 : Pos) : Expr := .BinOp (.BinOp (.Name x p3) .Add (.Constant (.str (PySem.Str.ofString ".")) 0 p4) p5) .Add (.Name y p6) p7
noncomputable abbrev lamScope (x y : PySem.Str) : Scope := { kind := .function, names := [(x, .local), (y, .local)], isGenerator := false, isCoroutine := false, more := [] }
theorem layL (w : World) (g c : Addr) (oc : Obj) (vs : Array Value) (tq : Tok) (name qual : PySem.Str) (pm ctv : Value) (p1 p2 p3 p4 p5 p6 p7 : Pos) (hd : oc.data = .fields vs) (hv : vs[1]? = some (.str qual tq)) :
    LayC w 870 g (kla_obj name qual (lamArgs (PySem.Str.ofString "text") (PySem.Str.ofString "rest") p1 p2) (lamBody (PySem.Str.ofString "text") (PySem.Str.ofString "rest") p3 p4 p5 p6 p7) (lamScope (PySem.Str.ofString "text") (PySem.Str.ofString "rest")) [] pm c ctv) (fun a b => a ++ 46 :: b)
      [(g, kla_obj name qual (lamArgs (PySem.Str.ofString "text") (PySem.Str.ofString "rest") p1 p2) (lamBody (PySem.Str.ofString "text") (PySem.Str.ofString "rest") p3 p4 p5 p6 p7) (lamScope (PySem.Str.ofString "text") (PySem.Str.ofString "rest")) [] pm c ctv), (c, oc)] where
  fn := ⟨_, _, _, _, rfl⟩
  mem := List.mem_cons_self
  call := by
    intro news a b t1 t2 hn ha hb
    w_on
    refine fn_in ?_
    intro p loose mean mg mb dp un gd cn cs a' ccd cl outer A₀ base h₀ L m shQ sgQ sdQ stQ soQ Q E B F X N T C1 C2 hk hd' hu hret
    have e1 : (tx a : PySem.Str) ++ PySem.Str.ofString "." = tx (a ++ [46]) := tx_append a [46]
    have e2 : (tx (a ++ [46]) : PySem.Str) ++ tx b = tx (a ++ 46 :: b) := by rw [tx_append]; simp
    have hla : (tx a).length ≤ 200 := by rw [tx_length]; exact ha
    have hlb : (tx b).length ≤ 200 := by rw [tx_length]; exact hb
    have hlc : (tx (a ++ [46])).length ≤ 201 := by rw [tx_length, List.length_append, List.length_singleton]; omega
    refine' kla_code (binds := [(PySem.Str.ofString "text", .str (tx a) t1), (PySem.Str.ofString "rest", .str (tx b) t2)]) B F X N T ?kA ?kF ?kK (hn _ List.mem_cons_self) (codeRec_news N (hn _ (List.mem_cons_of_mem _ List.mem_cons_self)) hd hv) ?kroom ?kbind ?kloc ?_ ?kco ?kgen ?kkind ?kcell
    (case kA => exact rfl)
    (case kF => exact rfl)
    (case kK => exact hk)
    (case kroom => (show dp < 1000; omega))
    (case kbind => exact rfl)
    (case kloc => exact locs rfl)
    (case kco => exact rfl)
    (case kgen => exact rfl)
    (case kkind => exact rfl)
    (case kcell => decide)
    intro g' L' h' FG' F' N' B' X' T'
    clear F FG'
    (try dsimp only)
    (try k_fold)
    k_steps
    exact hret _ _ _ _ (by assumption) (by assumption) ⟨⟨_, rfl⟩, rfl⟩
theorem layR (w : World) (g c : Addr) (oc : Obj) (vs : Array Value) (tq : Tok) (name qual : PySem.Str) (pm ctv : Value) (p1 p2 p3 p4 p5 p6 p7 : Pos) (hd : oc.data = .fields vs) (hv : vs[1]? = some (.str qual tq)) :
    LayC w 870 g (kla_obj name qual (lamArgs (PySem.Str.ofString "text") (PySem.Str.ofString "rest") p1 p2) (lamBody (PySem.Str.ofString "rest") (PySem.Str.ofString "text") p3 p4 p5 p6 p7) (lamScope (PySem.Str.ofString "text") (PySem.Str.ofString "rest")) [] pm c ctv) (fun a b => b ++ 46 :: a)
      [(g, kla_obj name qual (lamArgs (PySem.Str.ofString "text") (PySem.Str.ofString "rest") p1 p2) (lamBody (PySem.Str.ofString "rest") (PySem.Str.ofString "text") p3 p4 p5 p6 p7) (lamScope (PySem.Str.ofString "text") (PySem.Str.ofString "rest")) [] pm c ctv), (c, oc)] where
  fn := ⟨_, _, _, _, rfl⟩
  mem := List.mem_cons_self
  call := by
    intro news a b t1 t2 hn ha hb
    w_on
    refine fn_in ?_
    intro p loose mean mg mb dp un gd cn cs a' ccd cl outer A₀ base h₀ L m shQ sgQ sdQ stQ soQ Q E B F X N T C1 C2 hk hd' hu hret
    have e1 : (tx b : PySem.Str) ++ PySem.Str.ofString "." = tx (b ++ [46]) := tx_append b [46]
    have e2 : (tx (b ++ [46]) : PySem.Str) ++ tx a = tx (b ++ 46 :: a) := by rw [tx_append]; simp
    have hla : (tx a).length ≤ 200 := by rw [tx_length]; exact ha
    have hlb : (tx b).length ≤ 200 := by rw [tx_length]; exact hb
    have hlc : (tx (b ++ [46])).length ≤ 201 := by rw [tx_length, List.length_append, List.length_singleton]; omega
    refine' kla_code (binds := [(PySem.Str.ofString "text", .str (tx a) t1), (PySem.Str.ofString "rest", .str (tx b) t2)]) B F X N T ?kA ?kF ?kK (hn _ List.mem_cons_self) (codeRec_news N (hn _ (List.mem_cons_of_mem _ List.mem_cons_self)) hd hv) ?kroom ?kbind ?kloc ?_ ?kco ?kgen ?kkind ?kcell
    (case kA => exact rfl)
    (case kF => exact rfl)
    (case kK => exact hk)
    (case kroom => (show dp < 1000; omega))
    (case kbind => exact rfl)
    (case kloc => exact locs rfl)
    (case kco => exact rfl)
    (case kgen => exact rfl)
    (case kkind => exact rfl)
    (case kcell => decide)
    intro g' L' h' FG' F' N' B' X' T'
    clear F FG'
    (try dsimp only)
    (try k_fold)
    k_steps
    exact hret _ _ _ _ (by assumption) (by assumption) ⟨⟨_, rfl⟩, rfl⟩
end S_La
section S_Rt
structure SideOk (R Y : List Nat → List Nat → List Nat) (part : List (List Nat)) (amb : Prop) (good : List Nat → Prop) : Prop where
  run : ∃ (U : List (List Nat)) (Dg : Nat → List Nat → List Nat → Prop), U.length ≤ 6 ∧ (∀ a ∈ part, ∀ b ∈ part, R a b ≠ [] → R a b ∈ U ∧ Dg 0 (R a b) b) ∧
    (∀ n wd m c, Dg n wd m → wd ∈ U → c ∈ part → R wd c ≠ [] → R wd c ∈ U ∧ Dg (n + 1) (R wd c) (Y m (R wd c))) ∧
    (∀ n wd m c, Dg n wd m → wd ∈ U → c ∈ part → R c wd ≠ [] → R c wd ∈ U ∧ Dg (n + 1) (R c wd) m) ∧
    (∀ n wd m, Dg n wd m → Dg (n + 1) wd m) ∧ (∀ n wd m, n ≤ 8 → Dg n wd m → m.length ≤ 200) ∧
    (∀ a b, (a ∈ part ∨ a ∈ U) → (b ∈ part ∨ b ∈ U) → DmR a b ∧ (R a b).length ≤ 200) ∧
    (∀ n wd m, n ≤ 8 → wd ∈ part → Dg n wd m → amb ∧ good m) ∧ (∀ S, ClosedS R part S → (∀ wd ∈ part, ¬ S wd) → ¬ amb)
noncomputable def RdOk (R : List Nat → List Nat → List Nat) (code : List (List Nat)) (text : List Nat) : Prop :=
  text.length ≤ 100 ∧ ∃ P : List Nat → Prop, P text ∧ ∀ c ∈ code, ∀ part, P part → DmR c part ∧ (R c part).length ≤ 200 ∧ (R c part ≠ [] → P (R c part))
structure LawOk (A1 A2 A3 msg : List Nat) (amb2 amb3 : Prop) : Prop where
  l2 : SideOk restL (fun a b => a ++ 46 :: b) [A1, A2] amb2 fun _ => True
  r2 : SideOk aheadL (fun a b => b ++ 46 :: a) [A1, A2] amb2 fun _ => True
  l3 : SideOk restL (fun a b => a ++ 46 :: b) [A1, A2, A3] amb3 fun m => RdOk aheadL [A1, A2, A3] m ∧ 2 ≤ readingsL aheadL [A1, A2, A3] m
  r3 : SideOk aheadL (fun a b => b ++ 46 :: a) [A1, A2, A3] amb3 fun m => RdOk restL [A1, A2, A3] m ∧ 2 ≤ readingsL restL [A1, A2, A3] m
  same : A1 ++ 46 :: A2 = A2 ++ 46 :: A1 ↔ amb2
  le1 : A1.length ≤ 100
  le2 : A2.length ≤ 100
  rdL : RdOk restL [A1, A2, A3] msg
  rdR : RdOk aheadL [A1, A2, A3] msg
  eq : readingsL restL [A1, A2, A3] msg = readingsL aheadL [A1, A2, A3] msg
  pos : 1 ≤ readingsL restL [A1, A2, A3] msg
  many : 2 ≤ readingsL restL [A1, A2, A3] msg → amb3
noncomputable def RRes (amb : Prop) (good : List Nat → Prop) (res : List (List Nat)) : Prop := (∀ m ∈ res, amb ∧ good m) ∧ (res = [] → ¬ amb) ∧ res.length ≤ 6
inductive SideP (amb : Prop) (good : List Nat → Prop) (Inv : Nat → Led → Prop) (kb : Nat) (own : Led) (r : Value) (n' : Led) : Prop
  | mk (l : Addr) (res : List (List Nat)) (rv : List Value) (cap : Nat) (bs' : Led) (k' : Nat) (z1 : r = .ref l) (z2 : F2 TxtV res rv) (z3 : Inv k' bs') (z4 : k' ≤ kb + 1000) (z5 : Apart ((l, W.listOf rv.toArray cap) :: own) bs') (z6 : ∀ p ∈ own, p.1 ≠ l) (z7 : n' = (l, W.listOf rv.toArray cap) :: (own ++ bs')) (z8 : RRes amb good res) : SideP amb good Inv kb own r n'
theorem side_rounds {w : World} {R Y : List Nat → List Nat → List Nat} {part : List (List Nat)} {amb : Prop} {good : List Nat → Prop} (K : SideOk R Y part amb good) {f g : Addr} {of og : Obj} {Inv : Nat → Led → Prop} {need : Led} (hR : RestC w 870 f of R DmR Inv) (hY : LayC w 870 g og Y need)
    {lc : Addr} {cc : Nat} {cvs : List Value} {own bs : Led} {kb : Nat} (hc : (lc, W.listOf cvs.toArray cc) ∈ own) (hcv : F2 TxtV part cvs) (hcl : part.length ≤ 3) (hI : Inv kb bs) (hkb : kb + 1000 < 1000000) (hap : Apart own bs) (hneed : ∀ p ∈ need, p ∈ own) :
    FnS w 850 159 [.ref lc, .ref f, .ref g] (own ++ bs) (SideP amb good Inv kb own) := by
  obtain ⟨U, Dg, k1, k2, k3, k4, k5, k6, k7, k8, k9⟩ := K.run
  intro p loose mean mg mb dp un gd cn cs a ccd cl outer A₀ base h₀ L m s Q E B F N X T C1 C2 D hk hd hu ret
  refine rounds w f g of og R Y DmR Inv need hR hY lc cc part cvs own bs kb U Dg hc hcv hcl k1 k2 k3 k4 k5 k6 k7 hI hkb hap hneed p loose mean mg mb dp un gd cn cs a ccd cl outer A₀ base h₀ L m s Q E B F N X T C1 C2 D hk hd hu ?_
  rintro h r news' h' tk' q1 q2 q3 q4 q5 ⟨l, res, rv, cap, bs', k', z1, z2, z3, z4, z5, z6, z7, z8, z9, z10⟩
  refine ret h r news' h' tk' q1 q2 q3 q4 q5 ⟨l, res, rv, cap, bs', k', z1, z2, z3, z4, z5, z6, z7, ⟨fun m hm => ?_, fun e => ?_, z10⟩⟩
  · obtain ⟨n, wd, y1, y2, y3⟩ := z8 m hm
    exact k8 n wd m y1 y2 y3
  · obtain ⟨S, y1, y2⟩ := z9 e
    exact k9 S y1 y2
noncomputable abbrev TAB2 (c1 c2 : Addr) : Array Value := #[] ++ #[rawInt ((288 : Nat) : Int), rawInt ((4 : Nat) : Int), Value.ref c1] ++ #[rawInt ((291 : Nat) : Int), rawInt ((4 : Nat) : Int), Value.ref c2]
noncomputable abbrev TAB4 (c1 c2 c3 c4 : Addr) : Array Value := TAB2 c1 c2 ++ #[rawInt ((296 : Nat) : Int), rawInt ((55 : Nat) : Int), Value.ref c3] ++ #[rawInt ((297 : Nat) : Int), rawInt ((57 : Nat) : Int), Value.ref c4]
noncomputable def lamQ (c : Addr) (oc : Obj) : Prop := ∃ vs t, oc.data = .fields vs ∧ vs[1]? = some (.str (PySem.Str.ofString "_law_right.<locals>.<lambda>") t)
end S_Rt
section S_Th
noncomputable def pre (a b : List Nat) : List Nat := if a <+: b then b.drop a.length else []
theorem pre_app (a r : List Nat) : pre a (a ++ r) = r := by simp [pre]
theorem pre_no {a b : List Nat} (h : ∀ r, b ≠ a ++ r) : pre a b = [] := if_neg fun ⟨r, e⟩ => h r e.symm
theorem pre_eq {a b : List Nat} (h : pre a b ≠ []) : b = a ++ pre a b := by
  unfold pre at h ⊢
  split
  · rename_i q; obtain ⟨r, rfl⟩ := q; simp
  · rename_i q; exact absurd (if_neg q) h
noncomputable def Over (C p : List (List Nat)) : Prop := ∀ w ∈ p, w ∈ C
theorem Over.nil {C : List (List Nat)} : Over C [] := fun _ h => nomatch h
theorem Over.cons {C p : List (List Nat)} {c : List Nat} (hc : c ∈ C) (h : Over C p) : Over C (c :: p) := fun w hw => (List.mem_cons.mp hw).elim (fun e => e ▸ hc) (h w)
theorem Over.head {C p : List (List Nat)} {c : List Nat} (h : Over C (c :: p)) : c ∈ C := h c List.mem_cons_self
theorem Over.tail {C p : List (List Nat)} {c : List Nat} (h : Over C (c :: p)) : Over C p := fun w hw => h w (List.mem_cons_of_mem _ hw)
theorem Over.append {C p q : List (List Nat)} (h : Over C p) (h' : Over C q) : Over C (p ++ q) := fun w hw => (List.mem_append.mp hw).elim (h w) (h' w)
noncomputable def Amb (C : List (List Nat)) : Prop := ∃ p q, Over C p ∧ Over C q ∧ p ≠ q ∧ p.flatten = q.flatten
noncomputable def Two (C : List (List Nat)) (m wd : List Nat) : Prop := ∃ c d p q, Over C (c :: p) ∧ Over C (d :: q) ∧ c ≠ d ∧ m = (c :: p).flatten ∧ m = (d :: q).flatten ++ wd
section
variable {C : List (List Nat)}
theorem rev_rev (C : List (List Nat)) : (C.map List.reverse).map List.reverse = C := by
  rw [List.map_map]
  exact (List.map_congr_left fun a _ => List.reverse_reverse a).trans (List.map_id' C)
theorem two_first {a b : List Nat} (ha : a ∈ C) (hb : b ∈ C) (h : pre a b ≠ []) : Two C b (pre a b) := by
  refine ⟨b, a, [], [], .cons hb .nil, .cons ha .nil, fun e => h ?_, by simp, ?_⟩
  · subst e
    have := pre_app b []
    rwa [List.append_nil] at this
  · simpa using pre_eq h
theorem two_more {m wd c : List Nat} (h : Two C m wd) (hc : c ∈ C) (hn : pre wd c ≠ []) : Two C (m ++ pre wd c) (pre wd c) := by
  obtain ⟨a, d, p, q, h1, h2, h3, h4, h5⟩ := h
  have e := pre_eq hn
  refine ⟨d, a, q ++ [c], p, ?_, h1, h3.symm, ?_, by rw [← h4]⟩
  · exact Over.append h2 (.cons hc .nil)
  · rw [h5, List.append_assoc, ← e]; simp
theorem two_less {m wd c : List Nat} (h : Two C m wd) (hc : c ∈ C) (hn : pre c wd ≠ []) : Two C m (pre c wd) := by
  obtain ⟨a, d, p, q, h1, h2, h3, h4, h5⟩ := h
  have e := pre_eq hn
  refine ⟨a, d, p, q ++ [c], h1, Over.append h2 (.cons hc .nil), h3, h4, ?_⟩
  rw [h5]
  conv => lhs; rw [e]
  simp
theorem two_amb {m wd : List Nat} (h : Two C m wd) (hw : wd ∈ C) : ∃ p q, Over C p ∧ Over C q ∧ p ≠ q ∧ m = p.flatten ∧ m = q.flatten := by
  obtain ⟨a, d, p, q, h1, h2, h3, h4, h5⟩ := h
  refine ⟨a :: p, d :: (q ++ [wd]), h1, Over.append h2 (.cons hw .nil), fun e => h3 (List.cons.inj e).1, h4, ?_⟩
  rw [h5]; simp
theorem flat_nil {p : List (List Nat)} (hC : ∀ c ∈ C, c ≠ []) (h : Over C p) (e : p.flatten = []) : p = [] := by
  cases p with
  | nil => rfl
  | cons c p => exact absurd (List.append_eq_nil_iff.mp (List.flatten_cons ▸ e)).1 (hC c h.head)
theorem prefix_cases {a b x y : List Nat} (h : a ++ x = b ++ y) : (∃ r, b = a ++ r ∧ x = r ++ y) ∨ ∃ r, a = b ++ r ∧ y = r ++ x := by
  rcases List.append_eq_append_iff.mp h with ⟨r, e1, e2⟩ | ⟨r, e1, e2⟩
  · exact .inl ⟨r, e1, e2⟩
  · exact .inr ⟨r, e1, e2⟩
theorem closed_no {S : List Nat → Prop} (hC : ∀ c ∈ C, c ≠ []) (h1 : ∀ wd, S wd → ∀ c ∈ C, (pre wd c ≠ [] → S (pre wd c)) ∧ (pre c wd ≠ [] → S (pre c wd))) (hno : ∀ wd ∈ C, ¬ S wd) :
    ∀ (n : Nat) (wd : List Nat) (p q : List (List Nat)), p.length + q.length ≤ n → S wd → wd ≠ [] → Over C p → Over C q → wd ++ p.flatten = q.flatten → False
  | n, wd, p, [], hn, hs, hw, hp, hq, e => by
    have : wd ++ p.flatten = [] := e
    exact hw (List.append_eq_nil_iff.mp this).1
  | 0, wd, p, c :: q, hn, _, _, _, _, _ => by simp at hn
  | n + 1, wd, p, c :: q, hn, hs, hw, hp, hq, e => by
    rw [List.flatten_cons] at e
    simp only [List.length_cons] at hn
    rcases prefix_cases e with ⟨r, e1, e2⟩ | ⟨r, e1, e2⟩
    · by_cases hr : r = []
      · subst hr; rw [List.append_nil] at e1; exact hno c hq.head (e1 ▸ hs)
      · have ep : pre wd c = r := by rw [e1]; exact pre_app _ _
        have hS := (h1 wd hs c hq.head).1 (ep ▸ hr)
        rw [ep] at hS
        exact closed_no hC h1 hno n r q p (by omega) hS hr hq.tail hp e2.symm
    · by_cases hr : r = []
      · subst hr; rw [List.append_nil] at e1; exact hno c hq.head (e1 ▸ hs)
      · have ep : pre c wd = r := by rw [e1]; exact pre_app _ _
        have hS := (h1 wd hs c hq.head).2 (ep ▸ hr)
        rw [ep] at hS
        exact closed_no hC h1 hno n r p q (by omega) hS hr hp hq.tail e2.symm
theorem not_amb {S : List Nat → Prop} (hC : ∀ c ∈ C, c ≠ []) (h0 : ∀ a ∈ C, ∀ b ∈ C, pre a b ≠ [] → S (pre a b)) (h1 : ∀ wd, S wd → ∀ c ∈ C, (pre wd c ≠ [] → S (pre wd c)) ∧ (pre c wd ≠ [] → S (pre c wd))) (hno : ∀ wd ∈ C, ¬ S wd) : ¬ Amb C := by
  rintro ⟨p, q, hp, hq, hne, e⟩
  induction p generalizing q with
  | nil => exact hne (flat_nil hC hq e.symm).symm
  | cons a p ih =>
    cases q with
    | nil => exact hne (flat_nil hC hp e)
    | cons b q =>
      rw [List.flatten_cons, List.flatten_cons] at e
      rcases prefix_cases e with ⟨r, e1, e2⟩ | ⟨r, e1, e2⟩
      · by_cases hr : r = []
        · subst hr
          rw [List.append_nil] at e1
          rw [List.nil_append] at e2
          subst e1
          exact ih q hp.tail hq.tail (fun e' => hne (by rw [e'])) e2
        · have ep : pre a b = r := by rw [e1]; exact pre_app _ _
          have hS := h0 a hp.head b hq.head (ep ▸ hr)
          rw [ep] at hS
          exact closed_no hC h1 hno _ r q p (Nat.le_refl _) hS hr hq.tail hp.tail e2.symm
      · by_cases hr : r = []
        · subst hr
          rw [List.append_nil] at e1
          rw [List.nil_append] at e2
          subst e1
          exact ih q hp.tail hq.tail (fun e' => hne (by rw [e'])) e2.symm
        · have ep : pre b a = r := by rw [e1]; exact pre_app _ _
          have hS := h0 b hq.head a hp.head (ep ▸ hr)
          rw [ep] at hS
          exact closed_no hC h1 hno _ r p q (Nat.le_refl _) hS hr hp.tail hq.tail e2.symm
end
theorem amb_rev {C : List (List Nat)} (h : Amb C) : Amb (C.map List.reverse) := by
  obtain ⟨p, q, hp, hq, hne, e⟩ := h
  have over : ∀ {p : List (List Nat)}, Over C p → Over (C.map List.reverse) (p.map List.reverse).reverse := fun h w hw => by
    simp only [List.mem_reverse, List.mem_map] at hw ⊢
    obtain ⟨a, h1, h2⟩ := hw
    exact ⟨a, h a h1, h2⟩
  refine ⟨(p.map List.reverse).reverse, (q.map List.reverse).reverse, over hp, over hq, fun e' => hne ?_, ?_⟩
  · have := List.reverse_inj.mp e'
    have := congrArg (List.map List.reverse) this
    rwa [rev_rev, rev_rev] at this
  · have := congrArg List.reverse e
    rw [List.reverse_flatten, List.reverse_flatten] at this
    exact this
theorem amb_rev_iff {C : List (List Nat)} : Amb (C.map List.reverse) ↔ Amb C := ⟨fun h => by have := amb_rev h; rwa [rev_rev] at this, amb_rev⟩
theorem two_words : ∀ (n : Nat) (a b : List Nat) (p q : List (List Nat)), a.length + b.length ≤ n → a ≠ [] → b ≠ [] → Over [a, b] p → Over [a, b] q → a ++ p.flatten = b ++ q.flatten → a ++ b = b ++ a
  | 0, a, b, _, _, hn, ha, _, _, _, _ => absurd (List.length_pos_iff.mpr ha) (by omega)
  | n + 1, a, b, p, q, hn, ha, hb, hp, hq, e => by
    have key : ∀ {a b : List Nat} {p q : List (List Nat)} {r : List Nat}, a.length + b.length ≤ n + 1 → a ≠ [] → b = a ++ r → Over [a, b] p → Over [a, b] q → p.flatten = r ++ q.flatten → a ++ b = b ++ a := by
      intro a b p q r hn ha e1 hp hq e2
      by_cases hr : r = []
      · subst hr; rw [List.append_nil] at e1; rw [e1]
      · have sub : ∀ {p : List (List Nat)}, Over [a, b] p → ∃ p', Over [a, r] p' ∧ p'.flatten = p.flatten ∧ (p ≠ [] → ∃ p'', p' = a :: p'') := by
          intro p hp
          induction p with
          | nil => exact ⟨[], .nil, rfl, fun h => absurd rfl h⟩
          | cons c p ih =>
            obtain ⟨p', h1, h2, _⟩ := ih hp.tail
            have hc := hp.head
            simp only [List.mem_cons, List.not_mem_nil, or_false] at hc
            rcases hc with rfl | rfl
            · exact ⟨c :: p', .cons List.mem_cons_self h1, by simp [h2], fun _ => ⟨_, rfl⟩⟩
            · exact ⟨a :: r :: p', .cons List.mem_cons_self (.cons (List.mem_cons_of_mem _ List.mem_cons_self) h1), by simp [h2, e1], fun _ => ⟨_, rfl⟩⟩
        obtain ⟨p', h1, h2, h3⟩ := sub hp
        obtain ⟨q', g1, g2, _⟩ := sub hq
        have hpn : p ≠ [] := fun e => by
          subst e
          exact hr (List.append_eq_nil_iff.mp e2.symm).1
        obtain ⟨p'', rfl⟩ := h3 hpn
        have hla : 0 < a.length := List.length_pos_iff.mpr ha
        have := two_words n a r p'' q' (by rw [e1, List.length_append] at hn; omega) ha hr h1.tail g1 (by rw [← List.flatten_cons, h2, e2, g2])
        rw [e1, this]
        simp only [← List.append_assoc, this]
    rcases prefix_cases e with ⟨r, e1, e2⟩ | ⟨r, e1, e2⟩
    · exact key hn ha e1 hp hq e2
    · have sw : ∀ {p : List (List Nat)}, Over [a, b] p → Over [b, a] p := fun h w hw => by
        have := h w hw
        simp only [List.mem_cons, List.not_mem_nil, or_false] at this ⊢
        exact this.symm
      exact (key (by omega) hb e1 (sw hq) (sw hp) e2).symm
theorem amb_two {a b : List Nat} (ha : a ≠ []) (hb : b ≠ []) (hab : a ≠ b) : Amb [a, b] ↔ a ++ b = b ++ a := by
  constructor
  · rintro ⟨p, q, hp, hq, hne, e⟩
    have hC : ∀ c ∈ [a, b], c ≠ [] := by
      intro c hc
      simp only [List.mem_cons, List.not_mem_nil, or_false] at hc
      rcases hc with rfl | rfl <;> assumption
    induction p generalizing q with
    | nil => exact absurd (flat_nil hC hq e.symm).symm hne
    | cons c p ih =>
      cases q with
      | nil => exact absurd (flat_nil hC hp e) hne
      | cons d q =>
        have h1 := hp.head
        have h2 := hq.head
        rw [List.flatten_cons, List.flatten_cons] at e
        simp only [List.mem_cons, List.not_mem_nil, or_false] at h1 h2
        rcases h1 with rfl | rfl <;> rcases h2 with rfl | rfl
        · exact ih q hp.tail hq.tail (fun e' => hne (by rw [e'])) (List.append_cancel_left e)
        · exact two_words _ _ _ p q (Nat.le_refl _) ha hb hp.tail hq.tail e
        · exact two_words _ _ _ q p (Nat.le_refl _) ha hb hq.tail hp.tail e.symm
        · exact ih q hp.tail hq.tail (fun e' => hne (by rw [e'])) (List.append_cancel_left e)
  · intro e
    refine ⟨[a, b], [b, a], fun w hw => hw, fun w hw => ?_, fun e' => hab (List.cons.inj e').1, by simp [e]⟩
    simp only [List.mem_cons, List.not_mem_nil, or_false] at hw ⊢
    exact hw.symm
noncomputable def Ln (C : List (List Nat)) : Nat → List Nat → Nat
  | 0, t => if t = [] then 1 else 0
  | n + 1, t => (C.map fun c => if c <+: t then Ln C n (t.drop c.length) else 0).sum
noncomputable def Kn (C : List (List Nat)) : Nat → List Nat → Nat
  | 0, _ => 0
  | n + 1, t => Kn C n t + Ln C n t
theorem sum_add {α : Type} (f g : α → Nat) : ∀ (l : List α), (l.map fun x => f x + g x).sum = (l.map f).sum + (l.map g).sum
  | [] => rfl
  | a :: l => by simp only [List.map_cons, List.sum_cons, sum_add f g l]; omega
theorem sum_zero {α : Type} (f : α → Nat) : ∀ (l : List α), (∀ x ∈ l, f x = 0) → (l.map f).sum = 0
  | [], _ => rfl
  | a :: l, h => by simp only [List.map_cons, List.sum_cons, h a List.mem_cons_self, sum_zero f l fun x hx => h x (List.mem_cons_of_mem _ hx)]
theorem sum_swap {α β : Type} (f : α → β → Nat) (m : List β) : ∀ (l : List α), (l.map fun x => (m.map fun y => f x y).sum).sum = (m.map fun y => (l.map fun x => f x y).sum).sum
  | [] => (sum_zero _ _ fun _ _ => rfl).symm
  | a :: l => by
    simp only [List.map_cons, List.sum_cons, sum_swap f m l]
    rw [← sum_add]
theorem sum_ite {α : Type} (p : Prop) [Decidable p] (f : α → Nat) (l : List α) : (if p then (l.map f).sum else 0) = (l.map fun x => if p then f x else 0).sum := by
  split
  · rfl
  · rw [sum_zero _ _ fun _ _ => rfl]
theorem sum_pos_mem {α : Type} {f : α → Nat} : ∀ {l : List α}, 1 ≤ (l.map f).sum → ∃ x ∈ l, 1 ≤ f x
  | [], h => absurd h (by simp)
  | a :: l, h => by
    simp only [List.map_cons, List.sum_cons] at h
    by_cases q : 1 ≤ f a
    · exact ⟨a, List.mem_cons_self, q⟩
    · obtain ⟨x, h1, h2⟩ := sum_pos_mem (f := f) (l := l) (by omega)
      exact ⟨x, List.mem_cons_of_mem _ h1, h2⟩
theorem sum_two_mem {α : Type} {f : α → Nat} : ∀ {l : List α}, l.Nodup → 2 ≤ (l.map f).sum → (∃ x ∈ l, 2 ≤ f x) ∨ ∃ x ∈ l, ∃ y ∈ l, x ≠ y ∧ 1 ≤ f x ∧ 1 ≤ f y
  | [], _, h => absurd h (by simp)
  | a :: l, hn, h => by
    have ⟨n1, n2⟩ := List.nodup_cons.mp hn
    simp only [List.map_cons, List.sum_cons] at h
    by_cases q : 2 ≤ f a
    · exact .inl ⟨a, List.mem_cons_self, q⟩
    · by_cases q0 : f a = 0
      · rcases sum_two_mem (f := f) n2 (by omega) with ⟨x, h1, h2⟩ | ⟨x, h1, y, h2, h3⟩
        · exact .inl ⟨x, List.mem_cons_of_mem _ h1, h2⟩
        · exact .inr ⟨x, List.mem_cons_of_mem _ h1, y, List.mem_cons_of_mem _ h2, h3⟩
      · obtain ⟨x, h1, h2⟩ := sum_pos_mem (f := f) (l := l) (by omega)
        exact .inr ⟨a, List.mem_cons_self, x, List.mem_cons_of_mem _ h1, fun e => n1 (e ▸ h1), by omega, h2⟩
theorem sum_mem_le {α : Type} {f : α → Nat} : ∀ {l : List α} {x : α}, x ∈ l → f x ≤ (l.map f).sum
  | a :: l, x, h => by
    simp only [List.map_cons, List.sum_cons]
    rcases List.mem_cons.mp h with rfl | h
    · omega
    · have := sum_mem_le (f := f) h; omega
theorem sum_mem_two {α : Type} {f : α → Nat} : ∀ {l : List α} {x y : α}, x ∈ l → y ∈ l → x ≠ y → f x + f y ≤ (l.map f).sum
  | a :: l, x, y, hx, hy, hne => by
    simp only [List.map_cons, List.sum_cons]
    rcases List.mem_cons.mp hx with e1 | h1
    · rcases List.mem_cons.mp hy with e2 | h2
      · exact absurd (e1.trans e2.symm) hne
      · have := sum_mem_le (f := f) h2; rw [e1]; omega
    · rcases List.mem_cons.mp hy with e2 | h2
      · have := sum_mem_le (f := f) h1; rw [e2]; omega
      · have := sum_mem_two (f := f) h1 h2 hne; omega
section
variable {C : List (List Nat)}
theorem Ln_swap (f : List Nat → Nat) (c d t : List Nat) :
    (if c <+: t then (if d <:+ t.drop c.length then f ((t.drop c.length).take ((t.drop c.length).length - d.length)) else 0) else 0) =
    (if d <:+ t then (if c <+: t.take (t.length - d.length) then f ((t.take (t.length - d.length)).drop c.length) else 0) else 0) := by
  by_cases h : ∃ r, t = c ++ (r ++ d)
  · obtain ⟨r, rfl⟩ := h
    have e1 : (c ++ (r ++ d)).drop c.length = r ++ d := by simp
    have e2 : (c ++ (r ++ d)).take ((c ++ (r ++ d)).length - d.length) = c ++ r := by
      rw [← List.append_assoc]
      have : ((c ++ r) ++ d).length - d.length = (c ++ r).length := by simp; omega
      rw [this, List.take_left]
    have e3 : (r ++ d).take ((r ++ d).length - d.length) = r := by
      have : (r ++ d).length - d.length = r.length := by simp
      rw [this, List.take_left]
    rw [if_pos ⟨_, rfl⟩, e1, if_pos ⟨_, rfl⟩, e3, if_pos ⟨c ++ r, by simp⟩, e2, if_pos ⟨_, rfl⟩]
    simp
  · have l0 : (if c <+: t then (if d <:+ t.drop c.length then f ((t.drop c.length).take ((t.drop c.length).length - d.length)) else 0) else 0) = 0 := by
      split
      · rename_i q
        obtain ⟨x, rfl⟩ := q
        rw [if_neg]
        rintro ⟨r, e⟩
        rw [List.drop_left] at e
        exact h ⟨r, by rw [e]⟩
      · rfl
    rw [l0]
    split
    · rename_i q
      obtain ⟨x, rfl⟩ := q
      rw [if_neg]
      rintro ⟨r, e⟩
      have : (x ++ d).length - d.length = x.length := by simp
      rw [this, List.take_left] at e
      exact h ⟨r, by rw [← e]; simp⟩
    · rfl
theorem Ln_right : ∀ (n : Nat) (t : List Nat), Ln C (n + 1) t = (C.map fun c => if c <:+ t then Ln C n (t.take (t.length - c.length)) else 0).sum
  | 0, t => by
    unfold Ln
    congr 1
    apply List.map_congr_left
    intro c _
    unfold Ln
    by_cases e : t = c
    · subst e
      rw [if_pos (List.prefix_refl _), if_pos (List.suffix_refl _)]
      simp
    · have a1 : (if c <+: t then (if t.drop c.length = [] then 1 else 0) else 0) = 0 := by
        split
        · rename_i q
          obtain ⟨x, rfl⟩ := q
          rw [if_neg]
          rw [List.drop_left]
          intro ex
          exact e (by rw [ex, List.append_nil])
        · rfl
      have a2 : (if c <:+ t then (if t.take (t.length - c.length) = [] then 1 else 0) else 0) = 0 := by
        split
        · rename_i q
          obtain ⟨x, rfl⟩ := q
          rw [if_neg]
          have : (x ++ c).length - c.length = x.length := by simp
          rw [this, List.take_left]
          intro ex
          exact e (by rw [ex, List.nil_append])
        · rfl
      rw [a1, a2]
  | n + 1, t => by
    have l : Ln C (n + 2) t = (C.map fun c => (C.map fun d => if c <+: t then (if d <:+ t.drop c.length then Ln C n ((t.drop c.length).take ((t.drop c.length).length - d.length)) else 0) else 0).sum).sum := by
      show (C.map fun c => if c <+: t then Ln C (n + 1) (t.drop c.length) else 0).sum = _
      congr 1
      apply List.map_congr_left
      intro c _
      rw [Ln_right n, sum_ite]
    rw [l, sum_swap]
    congr 1
    apply List.map_congr_left
    intro d _
    have : Ln C (n + 1) (t.take (t.length - d.length)) = (C.map fun c => if c <+: t.take (t.length - d.length) then Ln C n ((t.take (t.length - d.length)).drop c.length) else 0).sum := rfl
    rw [this, sum_ite]
    congr 1
    apply List.map_congr_left
    intro c _
    exact Ln_swap _ c d t
theorem Ln_zero (hC : ∀ c ∈ C, c ≠ []) : ∀ (n : Nat) (t : List Nat), t.length < n → Ln C n t = 0
  | 0, t, h => absurd h (by omega)
  | n + 1, t, h => by
    unfold Ln
    refine sum_zero _ _ fun c hc => ?_
    split
    · rename_i q
      obtain ⟨x, rfl⟩ := q
      have := List.length_pos_iff.mpr (hC c hc)
      rw [List.drop_left]
      exact Ln_zero hC n x (by rw [List.length_append] at h; omega)
    · rfl
theorem Kn_stable (hC : ∀ c ∈ C, c ≠ []) {n : Nat} {t : List Nat} (h : t.length < n) : Kn C (n + 1) t = Kn C n t := by
  show Kn C n t + Ln C n t = _
  rw [Ln_zero hC n t h, Nat.add_zero]
theorem Kn_left : ∀ (n : Nat) (t : List Nat), Kn C (n + 1) t = (if t = [] then 1 else 0) + (C.map fun c => if c <+: t then Kn C n (t.drop c.length) else 0).sum
  | 0, t => by
    show 0 + Ln C 0 t = _
    rw [sum_zero]
    · unfold Ln; omega
    · intro c _; simp [Kn]
  | n + 1, t => by
    show Kn C (n + 1) t + Ln C (n + 1) t = _
    rw [Kn_left n t, Nat.add_assoc]
    congr 1
    show _ + (C.map fun c => if c <+: t then Ln C n (t.drop c.length) else 0).sum = _
    rw [← sum_add]
    congr 1
    apply List.map_congr_left
    intro c _
    split <;> rfl
theorem Kn_right : ∀ (n : Nat) (t : List Nat), Kn C (n + 1) t = (if t = [] then 1 else 0) + (C.map fun c => if c <:+ t then Kn C n (t.take (t.length - c.length)) else 0).sum
  | 0, t => by
    show 0 + Ln C 0 t = _
    rw [sum_zero]
    · unfold Ln; omega
    · intro c _; simp [Kn]
  | n + 1, t => by
    show Kn C (n + 1) t + Ln C (n + 1) t = _
    rw [Kn_right n t, Nat.add_assoc, Ln_right n t]
    congr 1
    rw [← sum_add]
    congr 1
    apply List.map_congr_left
    intro c _
    split <;> rfl
theorem Kn_pos (hC : ∀ c ∈ C, c ≠ []) : ∀ (n : Nat) (p : List (List Nat)), Over C p → p.length < n → 1 ≤ Kn C n p.flatten
  | 0, _, _, h => absurd h (by omega)
  | n + 1, [], _, _ => by rw [Kn_left]; simp
  | n + 1, c :: p, hp, h => by
    rw [Kn_left]
    have := Kn_pos hC n p hp.tail (by simp at h; omega)
    have h2 := sum_mem_le (f := fun d => if d <+: (c :: p).flatten then Kn C n ((c :: p).flatten.drop d.length) else 0) hp.head
    (try dsimp only at h2)
    rw [if_pos ⟨_, (List.flatten_cons).symm⟩, List.flatten_cons, List.drop_left] at h2
    rw [List.flatten_cons]
    omega
theorem Kn_two (hC : ∀ c ∈ C, c ≠ []) : ∀ (n : Nat) (p q : List (List Nat)), Over C p → Over C q → p ≠ q → p.flatten = q.flatten → p.length < n → q.length < n → 2 ≤ Kn C n p.flatten
  | 0, _, _, _, _, _, _, h, _ => absurd h (by omega)
  | n + 1, [], q, _, hq, hne, e, _, _ => absurd (flat_nil hC hq e.symm).symm hne
  | n + 1, c :: p, [], hp, _, hne, e, _, _ => absurd (flat_nil hC hp e) hne
  | n + 1, c :: p, d :: q, hp, hq, hne, e, h1, h2 => by
    rw [Kn_left]
    have val : ∀ {c : List Nat} {p : List (List Nat)} {t : List Nat}, t = (c :: p).flatten → (if c <+: t then Kn C n (t.drop c.length) else 0) = Kn C n p.flatten := fun {c p t} e => by
      rw [e, List.flatten_cons, if_pos ⟨_, rfl⟩, List.drop_left]
    by_cases hcd : c = d
    · subst hcd
      have e2 : p.flatten = q.flatten := List.append_cancel_left (by simpa only [List.flatten_cons] using e)
      have := Kn_two hC n p q hp.tail hq.tail (fun e' => hne (by rw [e'])) e2 (by simp at h1; omega) (by simp at h2; omega)
      have h3 := sum_mem_le (f := fun d => if d <+: (c :: p).flatten then Kn C n ((c :: p).flatten.drop d.length) else 0) hp.head
      (try dsimp only at h3)
      rw [val rfl] at h3
      omega
    · have h3 := sum_mem_two (f := fun d => if d <+: (c :: p).flatten then Kn C n ((c :: p).flatten.drop d.length) else 0) hp.head hq.head hcd
      (try dsimp only at h3)
      rw [val rfl, val e] at h3
      have := Kn_pos hC n p hp.tail (by simp at h1; omega)
      have := Kn_pos hC n q hq.tail (by simp at h2; omega)
      omega
theorem Kn_one_of : ∀ (n : Nat) (t : List Nat), 1 ≤ Kn C n t → ∃ p, Over C p ∧ p.flatten = t
  | 0, _, h => absurd h (by simp [Kn])
  | n + 1, t, h => by
    rw [Kn_left] at h
    by_cases e : t = []
    · exact ⟨[], .nil, e.symm⟩
    · rw [if_neg e, Nat.zero_add] at h
      obtain ⟨c, hc, h2⟩ := sum_pos_mem h
      split at h2
      · rename_i q
        obtain ⟨x, rfl⟩ := q
        rw [List.drop_left] at h2
        obtain ⟨p, h3, h4⟩ := Kn_one_of n x h2
        exact ⟨c :: p, .cons hc h3, by rw [List.flatten_cons, h4]⟩
      · omega
theorem Kn_two_of (hC : ∀ c ∈ C, c ≠ []) (hn : C.Nodup) : ∀ (n : Nat) (t : List Nat), 2 ≤ Kn C n t → Amb C
  | 0, _, h => absurd h (by simp [Kn])
  | n + 1, t, h => by
    rw [Kn_left] at h
    by_cases e : t = []
    · subst e
      rw [sum_zero] at h
      · simp at h
      · intro c hc
        rw [if_neg]
        rintro ⟨x, ex⟩
        exact hC c hc (List.append_eq_nil_iff.mp ex).1
    · rw [if_neg e, Nat.zero_add] at h
      rcases sum_two_mem hn h with ⟨c, hc, h2⟩ | ⟨c, hc, d, hd, hne, h2, h3⟩
      · split at h2
        · exact Kn_two_of hC hn n _ h2
        · omega
      · split at h2
        · rename_i q
          split at h3
          · rename_i q2
            obtain ⟨x, rfl⟩ := q
            obtain ⟨y, ey⟩ := q2
            rw [List.drop_left] at h2
            rw [← ey, List.drop_left] at h3
            obtain ⟨p1, a1, a2⟩ := Kn_one_of n x h2
            obtain ⟨p2, b1, b2⟩ := Kn_one_of n y h3
            exact ⟨c :: p1, d :: p2, .cons hc a1, .cons hd b1, fun e => hne (List.cons.inj e).1, by rw [List.flatten_cons, List.flatten_cons, a2, b2, ey]⟩
          · omega
        · omega
end
section
variable {R : List Nat → List Nat → List Nat} {code : List (List Nat)} {P : List Nat → Prop} {V : List Nat → Nat}
noncomputable def wval (V : List Nat → Nat) (g : Ways) (s : Nat) : Nat := match g s with
  | some (p, c) => c * V p
  | none => 0
noncomputable def wadd (R : List Nat → List Nat → List Nat) (V : List Nat → Nat) (p c : List Nat) : Nat := (if c = p then 1 else 0) + (if R c p ≠ [] then V (R c p) else 0)
noncomputable def GoodW (P : List Nat → Prop) (g : Ways) : Prop := ∀ s p c, g s = some (p, c) → p.length = s ∧ P p
theorem sum_put {g g' : Ways} {N : Nat} (h : ∀ s, s ≠ N → g' s = g s) : ∀ {sizes : List Nat}, sizes.Nodup → N ∈ sizes → (sizes.map (wval V g')).sum + wval V g N = (sizes.map (wval V g)).sum + wval V g' N
  | s :: r, hn, hm => by
    have ⟨n1, n2⟩ := List.nodup_cons.mp hn
    simp only [List.map_cons, List.sum_cons]
    have off : ∀ {l : List Nat}, N ∉ l → (l.map (wval V g')).sum = (l.map (wval V g)).sum := fun {l} hl => by
      congr 1
      apply List.map_congr_left
      intro x hx
      unfold wval
      rw [h x fun e => hl (e ▸ hx)]
    rcases List.mem_cons.mp hm with e | hm
    · subst e
      rw [off n1]; omega
    · have := sum_put h n2 hm
      have e : wval V g' s = wval V g s := by
        unfold wval
        rw [h s fun e => n1 (e ▸ hm)]
      omega
theorem inner_ways (huniq : ∀ p q, P p → P q → p.length = q.length → p = q) {p : List Nat} {cnt : Nat} {sizes : List Nat} (hnd : sizes.Nodup) (hp : cnt ≠ 0 → P p) (hst : cnt ≠ 0 → ∀ c ∈ code, R c p ≠ [] → P (R c p) ∧ (R c p).length ∈ sizes) :
    ∀ (l : List (List Nat)) (g : Ways) (wh : Nat), (∀ c ∈ l, c ∈ code) → GoodW P g → GoodW P (l.foldl (wayIn R p cnt) (g, wh)).1 ∧ (l.foldl (wayIn R p cnt) (g, wh)).2 + (sizes.map (wval V (l.foldl (wayIn R p cnt) (g, wh)).1)).sum = wh + (sizes.map (wval V g)).sum + cnt * (l.map (wadd R V p)).sum
  | [], g, wh, _, hg => ⟨hg, by simp⟩
  | c :: l, g, wh, hl, hg => by
    have hc := hl c List.mem_cons_self
    have hl' : ∀ c ∈ l, c ∈ code := fun c hc => hl c (List.mem_cons_of_mem _ hc)
    rw [List.foldl_cons, List.map_cons, List.sum_cons]
    by_cases h0 : cnt = 0
    · subst h0
      have e : wayIn R p 0 (g, wh) c = (g, wh) := by
        simp [wayIn]
      rw [e]
      have := inner_ways huniq hnd hp hst l g wh hl' hg
      refine ⟨this.1, ?_⟩
      rw [this.2]; simp
    · by_cases hr : R c p = []
      · have e : wayIn R p cnt (g, wh) c = (g, wh + cnt * wadd R V p c) := by
          have e2 : (if cnt ≠ 0 then R c p else []) = [] := by rw [if_pos h0, hr]
          have e3 : (if R c p ≠ [] then V (R c p) else 0) = 0 := if_neg fun h => h hr
          unfold wayIn wadd
          dsimp only
          rw [e2, e3, if_neg fun h => h rfl]
          split <;> simp
        rw [e]
        have := inner_ways huniq hnd hp hst l g (wh + cnt * wadd R V p c) hl' hg
        refine ⟨this.1, ?_⟩
        rw [this.2, Nat.mul_add]; omega
      · obtain ⟨s1, s2⟩ := hst h0 c hc hr
        have e : wayIn R p cnt (g, wh) c = ((fun n => if n = (R c p).length then some (R c p, ((g (R c p).length).getD ([], 0)).2 + cnt) else g n), wh + cnt * (if c = p then 1 else 0)) := by
          unfold wayIn
          dsimp only
          rw [if_pos h0, if_pos hr]
          split <;> simp
        rw [e]
        have hg2 : GoodW P (fun n => if n = (R c p).length then some (R c p, ((g (R c p).length).getD ([], 0)).2 + cnt) else g n) := by
          intro s q k hs
          dsimp only at hs
          split at hs
          · rename_i es
            cases hs
            exact ⟨es.symm, s1⟩
          · exact hg s q k hs
        have := inner_ways huniq hnd hp hst l _ (wh + cnt * (if c = p then 1 else 0)) hl' hg2
        refine ⟨this.1, ?_⟩
        rw [this.2]
        have key := sum_put (V := V) (g := g) (g' := fun n => if n = (R c p).length then some (R c p, ((g (R c p).length).getD ([], 0)).2 + cnt) else g n) (N := (R c p).length) (fun s hs => if_neg hs) hnd s2
        have v1 : wval V (fun n => if n = (R c p).length then some (R c p, ((g (R c p).length).getD ([], 0)).2 + cnt) else g n) (R c p).length = (((g (R c p).length).getD ([], 0)).2 + cnt) * V (R c p) := by
          unfold wval
          dsimp only
          rw [if_pos rfl]
        have v2 : wval V g (R c p).length = ((g (R c p).length).getD ([], 0)).2 * V (R c p) := by
          unfold wval
          cases hx : g (R c p).length with
          | none => simp
          | some y =>
            obtain ⟨q, k⟩ := y
            have := hg _ q k hx
            have e2 := huniq q _ this.2 s1 this.1
            subst e2
            rfl
        rw [v1, v2, Nat.add_mul] at key
        have w : wadd R V p c = (if c = p then 1 else 0) + V (R c p) := by
          unfold wadd
          rw [if_pos hr]
        rw [w, Nat.mul_add, Nat.mul_add]
        omega
noncomputable def Szs (P : List Nat → Prop) : List Nat → Prop
  | [] => True
  | s :: r => (∀ p, P p → p.length < s → p.length ∈ r) ∧ s ∉ r ∧ r.Nodup ∧ Szs P r
theorem outer_ways (huniq : ∀ p q, P p → P q → p.length = q.length → p = q) (hst : ∀ p, P p → ∀ c ∈ code, R c p ≠ [] → P (R c p) ∧ (R c p).length < p.length) (hV : ∀ p, P p → V p = (code.map (wadd R V p)).sum) :
    ∀ (sizes : List Nat) (g : Ways) (wh : Nat), Szs P sizes → GoodW P g → (sizes.foldl (wayOut R code) (g, wh)).2 = wh + (sizes.map (wval V g)).sum
  | [], g, wh, _, _ => by simp
  | s :: r, g, wh, ⟨z1, z2, z3, z4⟩, hg => by
    rw [List.foldl_cons, List.map_cons, List.sum_cons]
    unfold wayOut
    dsimp only
    have hp : ((g s).getD ([], 0)).2 ≠ 0 → P ((g s).getD ([], 0)).1 ∧ ((g s).getD ([], 0)).1.length = s := by
      cases hx : g s with
      | none => exact fun h => absurd rfl h
      | some y => obtain ⟨q, k⟩ := y; exact fun _ => (hg s q k hx).symm
    have := inner_ways (V := V) (R := R) (code := code) huniq z3 (fun h => (hp h).1) (fun h c hc hr => ⟨(hst _ (hp h).1 c hc hr).1, z1 _ (hst _ (hp h).1 c hc hr).1 (by have := (hst _ (hp h).1 c hc hr).2; rw [(hp h).2] at this; exact this)⟩) code g wh (fun _ h => h) hg
    obtain ⟨i1, i2⟩ := this
    have ih := outer_ways huniq hst hV r _ (code.foldl (wayIn R ((g s).getD ([], 0)).1 ((g s).getD ([], 0)).2) (g, wh)).2 z4 i1
    refine ih.trans ?_
    rw [i2]
    have : wval V g s = ((g s).getD ([], 0)).2 * (code.map (wadd R V ((g s).getD ([], 0)).1)).sum := by
      unfold wval
      cases hx : g s with
      | none => simp
      | some y =>
        obtain ⟨q, k⟩ := y
        show k * V q = k * _
        rw [hV q (hg s q k hx).2]
        rfl
    rw [this]; omega
theorem odd_is {n : Nat} (h : n % 2 = 1) : ∃ u, n = 2 * u + 1 := ⟨n / 2, by omega⟩
theorem szs_sub {t j : Nat} (h : j ≤ t) : 2 * t + 1 - 2 * j = 2 * (t - j) + 1 := by omega
theorem szs_range (hodd : ∀ p, P p → p.length % 2 = 1) (t : Nat) : ∀ (k i : Nat), i + k = t + 1 → Szs P ((List.range' i k).map fun i => 2 * t + 1 - 2 * i)
  | 0, _, _ => trivial
  | k + 1, i, h => by
    have hk : t = i + k := (Nat.succ.inj h).symm
    clear h
    subst hk
    rw [List.range'_succ, List.map_cons]
    have mem : ∀ x, x ∈ (List.range' (i + 1) k).map (fun j => 2 * (i + k) + 1 - 2 * j) ↔ ∃ j, i + 1 ≤ j ∧ j < i + 1 + k ∧ 2 * (i + k) + 1 - 2 * j = x := by
      intro x
      simp only [List.mem_map, List.mem_range'_1]
      constructor
      · rintro ⟨j, h1, h2⟩; exact ⟨j, h1.1, h1.2, h2⟩
      · rintro ⟨j, h1, h2, h3⟩; exact ⟨j, ⟨h1, h2⟩, h3⟩
    have le : ∀ {j}, j < i + 1 + k → j ≤ i + k := fun h => Nat.le_of_lt_succ (by rw [Nat.succ_eq_add_one, Nat.add_right_comm]; exact h)
    have sub : 2 * (i + k) + 1 - 2 * i = 2 * k + 1 := by rw [szs_sub (Nat.le_add_right i k), Nat.add_sub_cancel_left]
    refine ⟨fun p hp hl => ?_, fun hm => ?_, ?_, szs_range hodd (i + k) k (i + 1) (Nat.add_right_comm i 1 k)⟩
    · rw [mem]
      obtain ⟨u, hu⟩ := odd_is (hodd p hp)
      rw [hu, sub] at hl
      have hlt : u < k := by omega
      refine ⟨i + k - u, by omega, by omega, ?_⟩
      rw [szs_sub (Nat.sub_le _ _), hu, Nat.sub_sub_self (Nat.le_trans (Nat.le_of_lt hlt) (Nat.le_add_left k i))]
    · obtain ⟨j, h1, h2, h3⟩ := (mem _).mp hm
      rw [sub, szs_sub (le h2)] at h3
      omega
    · refine List.Pairwise.map _ (R := fun a b => a < b ∧ b < i + 1 + k) (fun a b hab => ?_) ?_
      · rw [szs_sub (le hab.2), szs_sub (le (Nat.lt_trans hab.1 hab.2))]
        have := hab.1
        have := le hab.2
        omega
      · refine List.Pairwise.imp_of_mem (R := fun a b => a < b) (fun ha hb hab => ⟨hab, (List.mem_range'_1.mp hb).2⟩) (List.pairwise_lt_range')
theorem readings_is {text : List Nat} (hP : P text) (huniq : ∀ p q, P p → P q → p.length = q.length → p = q) (hodd : ∀ p, P p → p.length % 2 = 1) (hst : ∀ p, P p → ∀ c ∈ code, R c p ≠ [] → P (R c p) ∧ (R c p).length < p.length) (hV : ∀ p, P p → V p = (code.map (wadd R V p)).sum) :
    readingsL R code text = V text := by
  unfold readingsL waysL
  obtain ⟨t, ht⟩ := odd_is (hodd _ hP)
  have hk : (text.length + 1) / 2 = t + 1 := by omega
  rw [hk, List.range_eq_range']
  have hz := szs_range hodd t (t + 1) 0 (Nat.zero_add _)
  rw [← ht] at hz
  rw [outer_ways huniq hst hV _ _ _ hz]
  · rw [List.range'_succ, List.map_cons, List.map_cons, List.sum_cons, List.map_map, sum_zero]
    · unfold wval
      dsimp only
      rw [if_pos (by omega)]
      simp
    · intro j hj
      rw [Function.comp_apply]
      unfold wval
      dsimp only
      have := List.mem_range'_1.mp hj
      have hne : ¬ text.length - 2 * j = text.length := by omega
      rw [if_neg hne]
  · intro s p c hs
    dsimp only at hs
    split at hs
    · rename_i e
      cases hs
      exact ⟨e.symm, hP⟩
    · cases hs
end
structure Side (R Y : List Nat → List Nat → List Nat) (φ : List Nat → List Nat) : Prop where
  rest : ∀ a b, a ≠ [] → R (φ a) (φ b) = φ (pre a b)
  lay : ∀ a b, a ≠ [] → b ≠ [] → Y (φ a) (φ b) = φ (a ++ b)
  nil : ∀ a, φ a = [] ↔ a = []
  inj : ∀ a b, φ a = φ b → a = b
  len : ∀ a, (φ a).length = 2 * a.length - 1
  mem : ∀ a c, c ∈ φ a → c ∈ a ∨ c = 46
  wd : ∀ a, a ≠ [] → (∀ c ∈ a, c ≠ 46) → Wd (φ a)
noncomputable def Lt (x y : Nat) (t : List Nat) : Prop := ∀ c ∈ t, c = x ∨ c = y
theorem Lt.drop {x y : Nat} {a b : List Nat} (h : Lt x y (a ++ b)) : Lt x y b := fun c hc => h c (List.mem_append_right _ hc)
structure CodeXY (x y : Nat) (C : List (List Nat)) : Prop where
  sx : x ∈ signs17 ∧ x ≠ 46
  sy : y ∈ signs17 ∧ y ≠ 46
  word : ∀ w ∈ C, w ≠ [] ∧ w.length ≤ 3 ∧ Lt x y w
noncomputable def six (x y : Nat) : List (List Nat) := [[x], [y], [x, x], [x, y], [y, x], [y, y]]
theorem in_six {x y : Nat} {t : List Nat} (h : t ≠ []) (hl : t.length ≤ 2) (hs : Lt x y t) : t ∈ six x y := by
  match t, h, hl, hs with
  | [a], _, _, hs => rcases hs a (by simp) with rfl | rfl <;> simp [six]
  | [a, b], _, _, hs => rcases hs a (by simp) with rfl | rfl <;> rcases hs b (by simp) with rfl | rfl <;> simp [six]
theorem of_six {x y : Nat} {t : List Nat} (h : t ∈ six x y) : t ≠ [] ∧ t.length ≤ 2 ∧ Lt x y t := by
  simp only [six, List.mem_cons, List.not_mem_nil, or_false] at h
  rcases h with rfl | rfl | rfl | rfl | rfl | rfl
  all_goals refine ⟨by simp, by simp, fun c hc => ?_⟩
  all_goals simp at hc
  all_goals omega
section
variable {R Y : List Nat → List Nat → List Nat} {φ : List Nat → List Nat} {x y : Nat} {C : List (List Nat)}
theorem CodeXY.ne (K : CodeXY x y C) : ∀ c ∈ C, c ≠ [] := fun c hc => (K.word c hc).1
theorem CodeXY.flat (K : CodeXY x y C) : ∀ {p : List (List Nat)}, Over C p → Lt x y p.flatten
  | [], _, c, hc => nomatch hc
  | a :: p, h, c, hc => by
    rw [List.flatten_cons] at hc
    rcases List.mem_append.mp hc with hc | hc
    · exact (K.word a h.head).2.2 c hc
    · exact K.flat h.tail c hc
theorem CodeXY.sign (K : CodeXY x y C) {t : List Nat} (h : Lt x y t) : ∀ c ∈ t, c ∈ signs17 ∧ c ≠ 46 := fun c hc => (h c hc).elim (fun e => e ▸ K.sx) fun e => e ▸ K.sy
theorem pre_lt {a b : List Nat} (h : Lt x y b) : Lt x y (pre a b) := by
  unfold pre
  split
  · exact fun c hc => h c (List.mem_of_mem_drop hc)
  · exact fun c hc => nomatch hc
theorem pre_len {a b : List Nat} : (pre a b).length ≤ b.length := by
  unfold pre
  split
  · simp
  · simp
theorem pre_len' {a b : List Nat} (ha : a ≠ []) (h : pre a b ≠ []) : (pre a b).length + 1 ≤ b.length := by
  have := congrArg List.length (pre_eq h)
  rw [List.length_append] at this
  have := List.length_pos_iff.mpr ha
  omega
theorem dmR (K : CodeXY x y C) (D : Side R Y φ) {a b : List Nat} (ha : a ≠ []) (hla : a.length ≤ 3) (hlb : b.length ≤ 50) (sa : Lt x y a) (sb : Lt x y b) : DmR (φ a) (φ b) ∧ (R (φ a) (φ b)).length ≤ 200 := by
  have mem : ∀ {t : List Nat}, Lt x y t → ∀ c ∈ φ t, c ∈ signs17 := fun {t} h c hc => by
    rcases D.mem t c hc with h2 | h2
    · exact (K.sign h c h2).1
    · rw [h2]; decide
  refine ⟨⟨D.wd a ha fun c hc => (K.sign sa c hc).2, mem sa, mem sb, ?_, ?_⟩, ?_⟩
  · rw [D.len]; omega
  · rw [D.len]; omega
  · rw [D.rest a b ha, D.len]
    have := pre_len (a := a) (b := b)
    omega
theorem side_ok (K : CodeXY x y C) (D : Side R Y φ) {amb : Prop} {good : List Nat → Prop} (hamb : Amb C ↔ amb) (hgood : ∀ m p q, Over C p → Over C q → p ≠ q → m = p.flatten → m = q.flatten → m.length ≤ 19 → good (φ m)) : SideOk R Y (C.map φ) amb good where
  run := by
    refine ⟨(six x y).map φ, fun n wd m => ∃ wd' m', wd = φ wd' ∧ m = φ m' ∧ Two C m' wd' ∧ m'.length ≤ 3 + 2 * n ∧ wd' ≠ [], by simp [six], ?_, ?_, ?_, ?_, ?_, ?_, ?_, ?_⟩
    · intro a ha b hb hne
      obtain ⟨a, za, rfl⟩ := List.mem_map.mp ha
      obtain ⟨b, zb, rfl⟩ := List.mem_map.mp hb
      have wa := K.word a za
      have wb := K.word b zb
      rw [D.rest a b wa.1] at hne ⊢
      have hp : pre a b ≠ [] := fun e => hne ((D.nil _).mpr e)
      have hl := pre_len' wa.1 hp
      exact ⟨List.mem_map_of_mem (in_six hp (by omega) (pre_lt wb.2.2)), _, _, rfl, rfl, two_first za zb hp, by omega, hp⟩
    · rintro n wd m c ⟨wd', m', rfl, rfl, h1, h2, h3⟩ hw hc hne
      obtain ⟨c, zc, rfl⟩ := List.mem_map.mp hc
      have wc := K.word c zc
      rw [D.rest wd' c h3] at hne ⊢
      have hp : pre wd' c ≠ [] := fun e => hne ((D.nil _).mpr e)
      have hl := pre_len' h3 hp
      have hm : m' ≠ [] := by
        obtain ⟨a, d, p, q, g1, g2, g3, g4, g5⟩ := h1
        rw [g4, List.flatten_cons]
        exact fun e => K.ne a g1.head (List.append_eq_nil_iff.mp e).1
      refine ⟨List.mem_map_of_mem (in_six hp (by omega) (pre_lt wc.2.2)), _, m' ++ pre wd' c, rfl, D.lay _ _ hm hp, two_more h1 zc hp, ?_, hp⟩
      rw [List.length_append]; omega
    · rintro n wd m c ⟨wd', m', rfl, rfl, h1, h2, h3⟩ hw hc hne
      obtain ⟨c, zc, rfl⟩ := List.mem_map.mp hc
      obtain ⟨u, hu, e⟩ := List.mem_map.mp hw
      have e := D.inj _ _ e
      subst e
      have wu := of_six hu
      have wc := K.word c zc
      rw [D.rest c u wc.1] at hne ⊢
      have hp : pre c u ≠ [] := fun e => hne ((D.nil _).mpr e)
      have hl := pre_len' wc.1 hp
      exact ⟨List.mem_map_of_mem (in_six hp (by omega) (pre_lt wu.2.2)), _, m', rfl, rfl, two_less h1 zc hp, by omega, hp⟩
    · rintro n wd m ⟨wd', m', h0, h4, h1, h2, h3⟩
      exact ⟨wd', m', h0, h4, h1, by omega, h3⟩
    · rintro n wd m hn ⟨wd', m', rfl, rfl, h1, h2, h3⟩
      rw [D.len]; omega
    · have word : ∀ a, (a ∈ C.map φ ∨ a ∈ (six x y).map φ) → ∃ t, a = φ t ∧ t ≠ [] ∧ t.length ≤ 3 ∧ Lt x y t := by
        rintro a (h | h)
        · obtain ⟨t, ht, rfl⟩ := List.mem_map.mp h
          exact ⟨t, rfl, K.word t ht⟩
        · obtain ⟨t, ht, rfl⟩ := List.mem_map.mp h
          have := of_six ht
          exact ⟨t, rfl, this.1, by omega, this.2.2⟩
      intro a b ha hb
      obtain ⟨a, rfl, a1, a2, a3⟩ := word a ha
      obtain ⟨b, rfl, b1, b2, b3⟩ := word b hb
      exact dmR K D a1 a2 (by omega) a3 b3
    · rintro n wd m hn hw ⟨wd', m', rfl, rfl, h1, h2, h3⟩
      obtain ⟨c, hc, e⟩ := List.mem_map.mp hw
      have e := D.inj _ _ e
      subst e
      obtain ⟨p, q, g1, g2, g3, g4, g5⟩ := two_amb h1 hc
      exact ⟨hamb.mp ⟨p, q, g1, g2, g3, by rw [← g4, g5]⟩, hgood m' p q g1 g2 g3 g4 g5 (by omega)⟩
    · rintro S ⟨s1, s2⟩ hno ha
      refine not_amb (S := fun t => t ≠ [] ∧ S (φ t)) K.ne ?_ ?_ ?_ (hamb.mpr ha)
      · intro a ha b hb hne
        have := s1 (φ a) (List.mem_map_of_mem ha) (φ b) (List.mem_map_of_mem hb)
        rw [D.rest a b (K.ne a ha)] at this
        exact ⟨hne, this fun e => hne ((D.nil _).mp e)⟩
      · rintro wd ⟨w1, w2⟩ c hc
        have := s2 (φ wd) w2 (φ c) (List.mem_map_of_mem hc)
        rw [D.rest wd c w1, D.rest c wd (K.ne c hc)] at this
        exact ⟨fun hne => ⟨hne, this.1 fun e => hne ((D.nil _).mp e)⟩, fun hne => ⟨hne, this.2 fun e => hne ((D.nil _).mp e)⟩⟩
      · rintro wd hw ⟨_, h⟩
        exact hno (φ wd) (List.mem_map_of_mem hw) h
theorem rd_ok (K : CodeXY x y C) (D : Side R Y φ) {t : List Nat} (hl : t.length ≤ 50) (hs : Lt x y t) : RdOk R (C.map φ) (φ t) := by
  refine ⟨by rw [D.len]; omega, fun p => ∃ s, p = φ s ∧ s.length ≤ 50 ∧ Lt x y s, ⟨t, rfl, hl, hs⟩, ?_⟩
  rintro c hc part ⟨s, rfl, h1, h2⟩
  obtain ⟨c, zc, rfl⟩ := List.mem_map.mp hc
  have wc := K.word c zc
  have := dmR K D wc.1 wc.2.1 h1 wc.2.2 h2
  refine ⟨this.1, this.2, fun _ => ⟨_, D.rest c s wc.1, ?_, pre_lt h2⟩⟩
  have := pre_len (a := c) (b := s)
  omega
theorem readings_eq (hC : ∀ c ∈ C, c ≠ []) (D : Side R Y φ) {t : List Nat} (ht : t ≠ []) : readingsL R (C.map φ) (φ t) = Kn C (t.length + 1) t := by
  classical
  have hV : ∀ s, (if h : ∃ u, φ s = φ u then Kn C (t.length + 1) h.choose else 0) = Kn C (t.length + 1) s := fun s => by
    rw [dif_pos ⟨s, rfl⟩]
    congr 1
    exact (D.inj _ _ (Exists.choose_spec (⟨s, rfl⟩ : ∃ u, φ s = φ u))).symm
  have main := readings_is (R := R) (code := C.map φ) (text := φ t) (P := fun p => ∃ s, s ≠ [] ∧ s <:+ t ∧ p = φ s) (V := fun p => if h : ∃ u, p = φ u then Kn C (t.length + 1) h.choose else 0) ⟨t, ht, List.suffix_refl _, rfl⟩ ?_ ?_ ?_ ?_
  · rw [main]; exact hV t
  · rintro p q ⟨s, s1, s2, rfl⟩ ⟨u, u1, u2, rfl⟩ e
    rw [D.len, D.len] at e
    have := List.length_pos_iff.mpr s1
    have := List.length_pos_iff.mpr u1
    have h := List.suffix_of_suffix_length_le s2 u2 (by omega)
    rw [h.eq_of_length (by omega)]
  · rintro p ⟨s, s1, s2, rfl⟩
    have := List.length_pos_iff.mpr s1
    rw [D.len]; omega
  · rintro p ⟨s, s1, s2, rfl⟩ c hc hne
    obtain ⟨c, zc, rfl⟩ := List.mem_map.mp hc
    rw [D.rest c s (hC c zc)] at hne ⊢
    have hp : pre c s ≠ [] := fun e => hne ((D.nil _).mpr e)
    have hl := pre_len' (hC c zc) hp
    refine ⟨⟨_, hp, List.IsSuffix.trans ⟨c, (pre_eq hp).symm⟩ s2, rfl⟩, ?_⟩
    rw [D.len, D.len]
    have := List.length_pos_iff.mpr hp
    omega
  · rintro p ⟨s, s1, s2, rfl⟩
    (try dsimp only)
    rw [hV, ← Kn_stable hC (Nat.lt_succ_of_le s2.length_le), Kn_left, if_neg s1, Nat.zero_add, List.map_map]
    congr 1
    apply List.map_congr_left
    intro c hc
    rw [Function.comp_apply]
    unfold wadd
    rw [D.rest c s (hC c hc)]
    dsimp only
    rw [hV]
    by_cases hp : c <+: s
    · rw [if_pos hp]
      obtain ⟨r, rfl⟩ := hp
      rw [List.drop_left, pre_app]
      by_cases hr : r = []
      · subst hr
        rw [List.append_nil, if_pos rfl, (D.nil []).mpr rfl, if_neg fun h => h rfl, Kn_left, if_pos rfl, sum_zero]
        intro d hd
        rw [if_neg]
        rintro ⟨z, ez⟩
        exact hC d hd (List.append_eq_nil_iff.mp ez).1
      · rw [if_neg, if_pos fun e => hr ((D.nil _).mp e), Nat.zero_add]
        intro e
        have := congrArg List.length (D.inj _ _ e)
        rw [List.length_append] at this
        have := List.length_pos_iff.mpr hr
        omega
    · have : pre c s = [] := if_neg hp
      rw [if_neg hp, this, (D.nil []).mpr rfl, if_neg fun e => hp (by rw [D.inj _ _ e]; exact List.prefix_refl _), if_neg fun h => h rfl]
end
theorem Kn_rev {C : List (List Nat)} : ∀ (n : Nat) (t : List Nat), Kn (C.map List.reverse) n t.reverse = Kn C n t
  | 0, _ => rfl
  | n + 1, t => by
    rw [Kn_left, Kn_right, List.map_map]
    congr 1
    · simp
    · congr 1
      apply List.map_congr_left
      intro c _
      rw [Function.comp_apply]
      by_cases h : c <:+ t
      · rw [if_pos h, if_pos (List.reverse_prefix.mpr h)]
        obtain ⟨r, rfl⟩ := h
        have : (r ++ c).length - c.length = r.length := by simp
        rw [this, List.take_left, List.reverse_append, List.drop_left, Kn_rev n r]
      · rw [if_neg h, if_neg fun e => h (List.reverse_prefix.mp e)]
theorem enc_cons (c d : Nat) (l : List Nat) : enc (c :: d :: l) = c :: 46 :: enc (d :: l) := by simp [enc]
theorem enc_len : ∀ (a : List Nat), (enc a).length = 2 * a.length - 1
  | [] => rfl
  | [_] => rfl
  | c :: d :: l => by rw [enc_cons, List.length_cons, List.length_cons, enc_len (d :: l)]; rfl
theorem enc_nil (a : List Nat) : enc a = [] ↔ a = [] := by cases a <;> simp [enc]
theorem enc_mem : ∀ (a : List Nat) (c : Nat), c ∈ enc a → c ∈ a ∨ c = 46
  | [], _, h => nomatch h
  | [_], _, h => .inl h
  | x :: d :: l, c, h => by
    rw [enc_cons] at h
    rcases List.mem_cons.mp h with rfl | h
    · exact .inl List.mem_cons_self
    · rcases List.mem_cons.mp h with rfl | h
      · exact .inr rfl
      · exact (enc_mem (d :: l) c h).imp_left (List.mem_cons_of_mem _)
theorem enc_append : ∀ (a b : List Nat), a ≠ [] → b ≠ [] → enc a ++ 46 :: enc b = enc (a ++ b)
  | [x], d :: b, _, _ => by
    show x :: 46 :: enc (d :: b) = enc (x :: d :: b)
    rw [enc_cons]
  | x :: y :: a, b, _, hb => by
    have := enc_append (y :: a) b (by simp) hb
    show enc (x :: y :: a) ++ _ = enc (x :: y :: (a ++ b))
    rw [enc_cons, enc_cons, List.cons_append, List.cons_append, this]; rfl
theorem enc_inj : ∀ (a b : List Nat), enc a = enc b → a = b
  | [], b, h => ((enc_nil b).mp h.symm).symm
  | c :: a, [], h => absurd h (by simp [enc])
  | [c], [d], h => h
  | [c], d :: e :: b, h => by rw [enc_cons] at h; simp [enc] at h
  | c :: e :: b, [d], h => by rw [enc_cons] at h; simp [enc] at h
  | c :: e :: a, d :: f :: b, h => by
    rw [enc_cons, enc_cons] at h
    simp only [List.cons.injEq, true_and] at h
    rw [h.1, enc_inj (e :: a) (f :: b) h.2]
theorem enc_split : ∀ (a b post : List Nat), a ≠ [] → enc b = enc a ++ 46 :: post → ∃ r, r ≠ [] ∧ b = a ++ r ∧ post = enc r
  | [x], [], _, _, h => by simp [enc] at h
  | [x], [y], _, _, h => by simp [enc] at h
  | [x], y :: z :: b, post, _, h => by
    rw [enc_cons] at h
    simp only [enc, List.flatMap_nil, List.cons_append, List.nil_append, List.cons.injEq, true_and] at h
    exact ⟨z :: b, by simp, by rw [h.1]; rfl, by rw [← h.2]; rfl⟩
  | x :: x2 :: a, [], _, _, h => by simp [enc] at h
  | x :: x2 :: a, [y], _, _, h => by rw [enc_cons] at h; simp [enc] at h
  | x :: x2 :: a, y :: y2 :: b, post, _, h => by
    rw [enc_cons, enc_cons] at h
    simp only [List.cons_append, List.cons.injEq, true_and] at h
    obtain ⟨r, h1, h2, h3⟩ := enc_split (x2 :: a) (y2 :: b) post (by simp) h.2
    exact ⟨r, h1, by rw [h.1, h2]; rfl, h3⟩
theorem enc_rev : ∀ (a : List Nat), (enc a).reverse = enc a.reverse
  | [] => rfl
  | [_] => rfl
  | c :: d :: l => by
    rw [enc_cons, List.reverse_cons, List.reverse_cons, enc_rev (d :: l), List.reverse_cons (a := c), ← enc_append _ [c] (by simp) (by simp)]
    simp [enc]
theorem sideL : Side restL (fun a b => a ++ 46 :: b) enc where
  rest a b ha := by
    by_cases h : ∃ post, enc b = enc a ++ 46 :: post
    · obtain ⟨post, h⟩ := h
      obtain ⟨r, h1, rfl, rfl⟩ := enc_split a b post ha h
      rw [h, restL_yes, pre_app]
    · rw [restL_no fun post e => h ⟨post, e⟩]
      symm
      rw [enc_nil]
      by_cases hp : pre a b = []
      · exact hp
      · exact absurd ⟨_, by conv => lhs; rw [pre_eq hp, ← enc_append _ _ ha hp]⟩ h
  lay a b ha hb := enc_append a b ha hb
  nil := enc_nil
  inj := enc_inj
  len := enc_len
  mem := enc_mem
  wd a ha hs := ⟨a, ha, hs, rfl⟩
theorem sideR : Side aheadL (fun a b => b ++ 46 :: a) (fun t => enc t.reverse) where
  rest a b ha := by
    have ha' : a.reverse ≠ [] := fun e => ha (by simpa using e)
    (try dsimp only)
    by_cases h : ∃ p, enc b.reverse = p ++ 46 :: enc a.reverse
    · obtain ⟨p, h⟩ := h
      have h2 := congrArg List.reverse h
      rw [enc_rev, List.reverse_reverse, List.reverse_append, List.reverse_cons, enc_rev, List.reverse_reverse, List.append_assoc] at h2
      obtain ⟨r, h3, rfl, h5⟩ := enc_split a b p.reverse ha h2
      rw [h, aheadL_yes, pre_app, ← enc_rev, ← h5, List.reverse_reverse]
    · rw [aheadL_no fun p e => h ⟨p, e⟩]
      symm
      rw [enc_nil, List.reverse_eq_nil_iff]
      by_cases hp : pre a b = []
      · exact hp
      · refine absurd ⟨enc (pre a b).reverse, ?_⟩ h
        conv => lhs; rw [pre_eq hp, List.reverse_append]
        exact (enc_append _ _ (fun e => hp (by simpa using e)) ha').symm
  lay a b ha hb := by
    rw [List.reverse_append]
    exact enc_append _ _ (fun e => hb (by simpa using e)) fun e => ha (by simpa using e)
  nil a := by rw [enc_nil, List.reverse_eq_nil_iff]
  inj a b h := List.reverse_inj.mp (enc_inj _ _ h)
  len a := by rw [enc_len, List.length_reverse]
  mem a c h := by
    have := enc_mem _ c h
    rwa [List.mem_reverse] at this
  wd a ha hs := ⟨a.reverse, fun e => ha (by simpa using e), fun c hc => hs c (List.mem_reverse.mp hc), rfl⟩
theorem len_flat {C : List (List Nat)} (hC : ∀ c ∈ C, c ≠ []) : ∀ {p : List (List Nat)}, Over C p → p.length ≤ p.flatten.length
  | [], _ => Nat.zero_le _
  | c :: p, h => by
    rw [List.flatten_cons, List.length_append, List.length_cons]
    have := len_flat hC h.tail
    have := List.length_pos_iff.mpr (hC c h.head)
    omega
theorem CodeXY.rev {x y : Nat} {C : List (List Nat)} (K : CodeXY x y C) : CodeXY x y (C.map List.reverse) where
  sx := K.sx
  sy := K.sy
  word w hw := by
    obtain ⟨a, ha, rfl⟩ := List.mem_map.mp hw
    have := K.word a ha
    exact ⟨fun e => this.1 (by simpa using e), by rw [List.length_reverse]; exact this.2.1, fun c hc => this.2.2 c (List.mem_reverse.mp hc)⟩
theorem map_rev (C : List (List Nat)) : (C.map List.reverse).map (fun t => enc t.reverse) = C.map enc := by
  rw [List.map_map]
  exact List.map_congr_left fun a _ => by simp
theorem law_ok {x y : Nat} {a1 a2 a3 : List Nat} (K : CodeXY x y [a1, a2, a3]) (hn : [a1, a2, a3].Nodup) {p : List (List Nat)} (hp : Over [a1, a2, a3] p) (hp1 : p ≠ []) (hp2 : p.length ≤ 3) :
    LawOk (enc a1) (enc a2) (enc a3) (enc p.flatten) (Amb [a1, a2]) (Amb [a1, a2, a3]) := by
  have K2 : CodeXY x y [a1, a2] := ⟨K.sx, K.sy, fun w hw => K.word w (by simp only [List.mem_cons, List.not_mem_nil, or_false] at hw ⊢; rcases hw with rfl | rfl <;> simp)⟩
  have n1 := K.ne a1 (by simp)
  have n2 := K.ne a2 (by simp)
  have hne : p.flatten ≠ [] := fun e => hp1 (flat_nil K.ne hp e)
  have ln : ∀ (q : List (List Nat)), Over [a1, a2, a3] q → q.flatten.length ≤ 3 * q.length := by
    intro q
    induction q with
    | nil => intro _; simp
    | cons c q ih =>
      intro h
      have := ih h.tail
      have := (K.word c h.head).2.1
      rw [List.flatten_cons, List.length_append, List.length_cons]
      omega
  have hl : p.flatten.length ≤ 50 := by have := ln p hp; omega
  have hs := K.flat hp
  have rL : ∀ {t : List Nat}, t ≠ [] → readingsL restL [enc a1, enc a2, enc a3] (enc t) = Kn [a1, a2, a3] (t.length + 1) t := fun h => readings_eq K.ne sideL h
  have rR : ∀ {t : List Nat}, t ≠ [] → readingsL aheadL [enc a1, enc a2, enc a3] (enc t) = Kn [a1, a2, a3] (t.length + 1) t := fun {t} h => by
    have := readings_eq K.rev.ne sideR (t := t.reverse) (fun e => h (by simpa using e))
    rw [map_rev, Kn_rev, List.length_reverse, List.reverse_reverse] at this
    exact this
  have dL : ∀ {t : List Nat}, t.length ≤ 50 → Lt x y t → RdOk restL [enc a1, enc a2, enc a3] (enc t) := fun h h' => rd_ok K sideL h h'
  have dR : ∀ {t : List Nat}, t.length ≤ 50 → Lt x y t → RdOk aheadL [enc a1, enc a2, enc a3] (enc t) := fun {t} h h' => by
    have := rd_ok K.rev sideR (t := t.reverse) (by rw [List.length_reverse]; exact h) fun c hc => h' c (List.mem_reverse.mp hc)
    rw [map_rev, List.reverse_reverse] at this
    exact this
  have two : ∀ {m : List Nat} {q q' : List (List Nat)}, Over [a1, a2, a3] q → Over [a1, a2, a3] q' → q ≠ q' → m = q.flatten → m = q'.flatten → m ≠ [] ∧ Lt x y m ∧ 2 ≤ Kn [a1, a2, a3] (m.length + 1) m := by
    intro m q q' h1 h2 h3 h4 h5
    have l1 := len_flat K.ne h1
    have l2 := len_flat K.ne h2
    have := Kn_two K.ne (m.length + 1) q q' h1 h2 h3 (by rw [← h4, h5]) (by rw [h4]; omega) (by rw [h5]; omega)
    rw [← h4] at this
    refine ⟨fun e => ?_, by rw [h4]; exact K.flat h1, this⟩
    have e1 := flat_nil K.ne h1 (by rw [← h4, e])
    have e2 := flat_nil K.ne h2 (by rw [← h5, e])
    exact h3 (e1.trans e2.symm)
  have ar2 : Amb ([a1, a2].map List.reverse) ↔ Amb [a1, a2] := amb_rev_iff
  have ar3 : Amb ([a1, a2, a3].map List.reverse) ↔ Amb [a1, a2, a3] := amb_rev_iff
  have unrev : ∀ {q : List (List Nat)}, Over ([a1, a2, a3].map List.reverse) q → Over [a1, a2, a3] (q.map List.reverse).reverse := fun {q} h w hw => by
    simp only [List.mem_reverse] at hw
    obtain ⟨b, hb, rfl⟩ := List.mem_map.mp hw
    obtain ⟨c, hc, rfl⟩ := List.mem_map.mp (h b hb)
    rw [List.reverse_reverse]; exact hc
  refine ⟨side_ok K2 sideL Iff.rfl fun _ _ _ _ _ _ _ _ _ => trivial, ?_, side_ok K sideL Iff.rfl ?_, ?_, ?_, ?_, ?_, dL hl hs, dR hl hs, by rw [rL hne, rR hne], ?_, ?_⟩
  · have := side_ok K2.rev sideR ar2 (good := fun _ => True) fun _ _ _ _ _ _ _ _ _ => trivial
    rwa [map_rev] at this
  · intro m q q' h1 h2 h3 h4 h5 h6
    obtain ⟨g1, g2, g3⟩ := two h1 h2 h3 h4 h5
    exact ⟨dR (by omega) g2, by rw [rR g1]; exact g3⟩
  · have := side_ok K.rev sideR ar3 (good := fun m => RdOk restL [enc a1, enc a2, enc a3] m ∧ 2 ≤ readingsL restL [enc a1, enc a2, enc a3] m) ?_
    · rwa [map_rev] at this
    · intro m q q' h1 h2 h3 h4 h5 h6
      have e : ∀ {q : List (List Nat)}, m = q.flatten → m.reverse = ((q.map List.reverse).reverse).flatten := fun {q} h => by rw [h, List.reverse_flatten]
      obtain ⟨g1, g2, g3⟩ := two (unrev h1) (unrev h2) (fun e => h3 (by
        have := congrArg (List.map List.reverse) (List.reverse_inj.mp e)
        rwa [rev_rev, rev_rev] at this)) (e h4) (e h5)
      exact ⟨dL (by rw [List.length_reverse]; omega) g2, by rw [rL g1]; exact g3⟩
  · rw [enc_append _ _ n1 n2, enc_append _ _ n2 n1, amb_two n1 n2 (by simp at hn; exact hn.1.1)]
    exact ⟨enc_inj _ _, fun e => by rw [e]⟩
  · rw [enc_len]; have := (K.word a1 (by simp)).2.1; omega
  · rw [enc_len]; have := (K.word a2 (by simp)).2.1; omega
  · rw [rL hne]
    exact Kn_pos K.ne _ p hp (by have := len_flat K.ne hp; omega)
  · rw [rL hne]
    exact Kn_two_of K.ne hn _ _
end S_Th
section S_De
open PyProof.Rows.LCg PyProof.Rows.LCt
section
variable {prog : Program} {w : World} {A : Around} {E : Value → Shared → Prop} {s : Shared} {h₀ : Heap} {L : Addr} {m : PySem.Str → Option Value} {env : Env} {elt ct iter : Expr} {x : PySem.Str} {px : Pos} {scope : Scope} {cl : List (PySem.Str × Addr)} {pos : Pos}
inductive SrcD (prog : Program) (w : World) (A : Around) (h₀ : Heap) (L : Addr) (m : PySem.Str → Option Value) (env : Env) (ct : Expr) (x : PySem.Str) (scope : Scope) (cl : List (PySem.Str × Addr)) (Q : Value → Shared → Prop) (xv : Value) (s₁ : Shared) : Prop
  | mk (d : Addr) (od : Obj) (kvs : List (PySem.Str × Value)) (news : Led) (c1 : xv = .ref d) (c2 : (d == sysModules) = false) (c3 : A.handled = none) (c4 : Fr h₀ L s₁.heap m) (c5 : News h₀ L s₁.heap news) (c6 : (d, od) ∈ news) (c7 : od.IsDictOf (PySem.strKind prog w) kvs) (c8 : kvs.length ≤ sizeLine) (c9 : (∀ key v t C oC m₂ h g tk (E' : Value → Shared → Prop) led, valueAt kvs key = some v → NsObj oC m₂ → m₂ x = some (.str key t) → Fr h₀ L h m → News h₀ L h led → (C, oC) ∈ led → (∀ p ∈ news, p ∈ led) → wpAny (model prog w) A (isTrue ct (compEnvC scope cl C env) (eval ct (compEnvC scope cl C env))) (TEnd h₀ L { s₁ with heap := g } m led false) E' { s₁ with heap := h, toks := tk })) (c10 : ∀ D h tk, Fr h₀ L h m → News h₀ L h ((D, lst []) :: news) → Off1 D news → Q (.ref D) { s₁ with heap := h, toks := tk }) : SrcD prog w A h₀ L m env ct x scope cl Q xv s₁
theorem ListComp_D {Q : Value → Shared → Prop} (F₀ : Fr h₀ L s.heap m)
    (hclos : closureFor scope env = pure cl) (hcell : ∀ y ∈ scope.names, y.2 ≠ .cell) (hkind : scope.kind = .function)
    (hnames : ∀ y ∈ scope.names, y.2 = .local → scope.names.lookup y.1 = some .local) (hx : scope.names.lookup x = some .local)
    (h : wpAny (model prog w) A (eval iter env) (SrcD prog w A h₀ L m env ct x scope cl Q) E s)
    (hs : ∀ x, foldedSetIterable iter env x = pure x := by intro _; rfl) :
    wpAny (model prog w) A (eval (.ListComp elt [⟨.Name x px, iter, [ct], 0⟩] scope pos) env) Q E s := by
  rw [eval_ListComp]
  refine wpAny_comprehension_free (use := none) rfl hs hclos hkind hnames (wpAny_mono h (fun xv s₁ h₁ => ?_) fun _ _ e => e)
  obtain ⟨d, od, kvs, news, rfl, lo, hh, F, N, hm, hd, hsz, test, fin⟩ := h₁
  obtain ⟨ep, at'⟩ := KdkAt.of hd
  have hax := N _ hm
  have hne : d ≠ s₁.heap.objs.size := Nat.ne_of_lt (Heap.lt_size hax.1)
  refine wpAny_pyIter_dict lo (at'.dictAt hax.1) ?_
  refine block_T (S := fun nw => (d, od) ∈ nw) (Fin := FinE h₀ L m s₁ Q) (Walks.dictKeys (knd := PySem.strKind prog w) hh s₁.heap.objs.size d hne kvs ep) hsz (fun i h st => by obtain ⟨o, e, _⟩ := st.1; exact ⟨o, e⟩)
    (fun i h h' o nw st e e' _ N' hS => ⟨st.1.at fun o' q => by rw [e] at q; cases q; exact e', at'.dictAt (N' _ hS).1⟩) hcell hkind hx ⟨⟨_, Heap.get?_push_size _ rfl, rfl, rfl⟩, (at'.dictAt hax.1).at' fun o e => Heap.get?_push_of_some _ e⟩ (fun b hb => ?_)
    (F.keeps fun _ _ e => Heap.get?_push_of_some _ e) (N.grown fun _ _ e => Heap.get?_push_of_some _ e) (Nat.ne_of_lt F.ns.lt) (next_is_new F) (fun p hp => Nat.ne_of_lt (Heap.lt_size (N p hp).1)) hm ?_ ?_
  · show b < (s₁.heap.push _).objs.size
    rw [Heap.size_push]
    rcases List.mem_cons.mp hb with rfl | hb
    · exact Nat.lt_succ_self _
    · rw [List.mem_singleton.mp hb]; exact Nat.lt_succ_of_lt (Heap.lt_size hax.1)
  · have main : ∀ n i, i + n = kvs.length → CompRestT prog w A h₀ L m env ct elt x scope cl { s₁ with heap := s₁.heap.push { cls := .type "dict_keyiterator", data := .fields #[.ref d, .int 0 0, .int kvs.length 0, .int ep 0] } } (fun nw => (d, od) ∈ nw) (fun i v => ∃ k x, kvs[i]? = some (k, x) ∧ (PySem.strKind prog w).is k v = true) (FinE h₀ L m s₁ Q) n i [] news := by
      intro n
      induction n with
      | zero => exact fun _ _ => .zero fun D h tk F' N' o => fin D h tk F' N' o
      | succ n ih =>
        intro i hi
        refine .succ fun v I oI C oC D m₂ h tk E' hP ho hx F' N' off ne => ?_
        obtain ⟨k, y, hk, hk2⟩ := hP
        obtain ⟨t, rfl⟩ := Value.isStrOf_shape hk2
        refine wpAny_mono (test k y t C oC m₂ h h tk E' _ (valueAt_of_get hd.choose_spec.choose_spec.2.2.2.2 hk) ho hx F' N' (by simp) fun p hp => by simp [hp]) (fun ok s' h1 => ?_) fun _ _ e => e
        obtain ⟨rfl, h', tk', rfl, F2', N2'⟩ := h1
        rw [if_neg (by decide)]
        exact ⟨h', tk', news, rfl, F2', N2', off, hm, ih (i + 1) (by omega)⟩
    exact main kvs.length 0 (Nat.zero_add _)
  · intro D C h tk m' ys news' F' N' o1 hn hC₀ hD₀ hCL hDL hCD offC fin
    refine ⟨m', hn, fun h'' hs'' => fin D h'' tk (F'.change hs'' hCL hC₀) (fun p hp => ?_) o1⟩
    refine ⟨hs''.extBut _ _ ?_ (N' p hp).1, (N' p hp).2⟩
    rcases List.mem_cons.mp hp with rfl | hp
    · exact Ne.symm hCD
    · exact offC p hp
end
end S_De
section S_Mk
open PyProof.Rows.LCg PyProof.Rows.LCt
section
variable {prog : Program} {w : World} {A : Around} {E : Value → Shared → Prop} {s : Shared} {h₀ : Heap} {L ax : Addr} {m : PySem.Str → Option Value} {news : Led} {env : Env} {elt : Expr} {x : PySem.Str} {scope : Scope} {cl : List (PySem.Str × Addr)} {Fin : Shared → List Value → Led → Prop} {its : List Value} {k : Nat}
theorem comp_inv (J : Nat → List Value → Prop) (hh : A.handled = none) (F : Fr h₀ L s.heap m) (N : News h₀ L s.heap news) (hm : (ax, W.listOf its.toArray k) ∈ news) (hl : its.length ≤ 100000) (j0 : J 0 [])
    (step : ∀ i ys v I oI C oC D m₂ h g tk (E' : Value → Shared → Prop), its[i]? = some v → J i ys → NsObj oC m₂ → m₂ x = some v → Fr h₀ L h m → News h₀ L h ((I, oI) :: (C, oC) :: (D, lst ys) :: news) →
      wpAny (model prog w) A (eval elt (compEnvC scope cl C env)) (EEnd h₀ L { s with heap := g } m ((I, oI) :: (C, oC) :: (D, lst ys) :: news) (fun y => J (i + 1) (ys ++ [y]))) E' { s with heap := h, toks := tk })
    (fin : ∀ g ys, J its.length ys → Fin { s with heap := g } ys news) : CompSrc prog w A h₀ L m env elt x scope cl Fin (.ref ax) s := by
  have hsz : its.toArray.size = its.length := List.size_toArray ..
  refine CompSrc.ledger hh F N hm (by rw [hsz]; exact le_sizeLine (by omega)) fun g => ?_
  rw [hsz]
  refine compRest_inv J ?_ (fun ys hj => fin g ys hj) _ 0 [] (Nat.zero_add _) j0
  intro i ys v I oI C oC D m₂ h tk E' hi hj hP ho hx F' N' off ne
  refine wpAny_mono (step i ys v I oI C oC D m₂ h g tk E' (by simpa using hP) hj ho hx F' N') (fun y s₂ h1 => ?_) fun _ _ e => e
  obtain ⟨hy, h', tk', rfl, F2', N2'⟩ := h1
  exact ⟨h', tk', news, rfl, F2', N2', off, .inr ⟨_, hm, rfl, _, rfl⟩, rfl, hy⟩
theorem filt_inv {ls : List (List Nat)} {vs : List Value} {ct : Expr} (pz : List Nat → Bool) (fz : List Nat → List Nat) (hh : A.handled = none) (F : Fr h₀ L s.heap m) (N : News h₀ L s.heap news) (hm : (ax, W.listOf vs.toArray k) ∈ news) (hv : F2 TxtV ls vs) (hl : ls.length ≤ 100000)
    (test : ∀ (i : Nat) c t I oI C oC D ys m₂ h g tk (E' : Value → Shared → Prop), ls[i]? = some c → NsObj oC m₂ → m₂ x = some (.str (tx c) t) → Fr h₀ L h m → News h₀ L h ((I, oI) :: (C, oC) :: (D, lst ys) :: news) →
      wpAny (model prog w) A (isTrue ct (compEnvC scope cl C env) (eval ct (compEnvC scope cl C env))) (TEnd h₀ L { s with heap := g } m ((I, oI) :: (C, oC) :: (D, lst ys) :: news) (pz c)) E' { s with heap := h, toks := tk })
    (elem : ∀ (i : Nat) c t I oI C oC D ys m₂ h g tk (E' : Value → Shared → Prop), ls[i]? = some c → pz c = true → NsObj oC m₂ → m₂ x = some (.str (tx c) t) → Fr h₀ L h m → News h₀ L h ((I, oI) :: (C, oC) :: (D, lst ys) :: news) →
      wpAny (model prog w) A (eval elt (compEnvC scope cl C env)) (EEnd h₀ L { s with heap := g } m ((I, oI) :: (C, oC) :: (D, lst ys) :: news) (TxtV (fz c))) E' { s with heap := h, toks := tk })
    (fin : ∀ g ys, F2 TxtV ((ls.filter pz).map fz) ys → Fin { s with heap := g } ys news) :
    CompSrcT prog w A h₀ L m env ct elt x scope cl Fin (.ref ax) s := by
  have hsz : vs.toArray.size = ls.length := by rw [List.size_toArray, hv.length]
  refine CompSrcT.ledger hh F N hm (by rw [hsz]; exact le_sizeLine (by omega)) fun g => ?_
  have main : ∀ n i ys, i + n = ls.length → F2 TxtV (((ls.take i).filter pz).map fz) ys → CompRestT prog w A h₀ L m env ct elt x scope cl { s with heap := g } (SrcAt h₀ ax vs.toArray) (fun i v => vs.toArray[i]? = some v) (Fin { s with heap := g }) n i ys news := by
    intro n
    induction n with
    | zero =>
      intro i ys e hj
      refine .zero ?_
      have : i = ls.length := by omega
      rw [this, List.take_length] at hj
      exact fin g ys hj
    | succ n ih =>
      intro i ys e hj
      refine .succ fun v I oI C oC D m₂ h tk E' hP ho hx F' N' off ne => ?_
      have hi : i < ls.length := by omega
      obtain ⟨c, hc⟩ : ∃ c, ls[i]? = some c := ⟨_, List.getElem?_eq_getElem hi⟩
      obtain ⟨_, e1, t, rfl⟩ := hv.get i hc
      have e2 : vs[i]? = some v := by simpa using hP
      rw [e1] at e2
      cases e2
      have etake : ls.take (i + 1) = ls.take i ++ [c] := by rw [List.take_add_one, hc]; rfl
      refine wpAny_mono (test i c t I oI C oC D ys m₂ h g tk E' hc ho hx F' N') (fun ok s' h1 => ?_) fun _ _ e => e
      obtain ⟨rfl, h', tk', rfl, F2', N2'⟩ := h1
      cases hpz : pz c with
      | true =>
        rw [if_pos rfl]
        refine wpAny_mono (elem i c t I oI C oC D ys m₂ h' g tk' E' hc hpz ho hx F2' N2') (fun y s'' h2 => ?_) fun _ _ e => e
        obtain ⟨hy, h'', tk'', rfl, F3, N3⟩ := h2
        refine ⟨h'', tk'', news, rfl, F3, N3, off, ?_, ih (i + 1) _ (by omega) ?_⟩
        · exact .inr ⟨_, hm, rfl, _, rfl⟩
        · rw [etake, List.filter_append, List.map_append, List.filter_cons_of_pos hpz]
          exact hj.snoc hy
      | false =>
        rw [if_neg (by decide)]
        refine ⟨h', tk', news, rfl, F2', N2', off, ?_, ih (i + 1) _ (by omega) ?_⟩
        · exact .inr ⟨_, hm, rfl, _, rfl⟩
        · rw [etake, List.filter_append, List.filter_cons_of_neg (by simp [hpz]), List.filter_nil, List.append_nil]
          exact hj
  rw [hsz]
  exact main ls.length 0 [] (Nat.zero_add _) .nil
end
end S_Mk
section S_Ra
noncomputable def rightParts : Option (PySem.Str × Scope × List Stmt) := match stm 28 with
  | .FunctionDef nm _ b _ _ _ sc _ _ _ => some (nm, sc, b.drop 7)
  | _ => none
noncomputable def rightRest : List Stmt := match rightParts with
  | some x => x.2.2
  | none => []
noncomputable def rightEnv (L : Addr) : Env := match rightParts with
  | some x => envOfC x.1 x.2.1 L 171 (.ref 170)
  | none => default
theorem enter_rest {M : Model} {A : Around} {L : Addr} {E : Value → Shared → Prop} {Q : Flow → Shared → Prop} {s : Shared} {nm : PySem.Str} {sc : Scope} {st : Stmt} {rest : List Stmt} (e : rightParts = some (nm, sc, st :: rest)) (h : wpAny M (A.deeper (envOfC nm sc L 171 (.ref 170))) (execs (st :: rest) (envOfC nm sc L 171 (.ref 170))) Q E s) : wpAny M (A.deeper (rightEnv L)) (execs rightRest (rightEnv L)) Q E s := by
  unfold rightRest rightEnv
  rw [e]; exact h
noncomputable def tailRest : List Stmt := match rightParts with
  | some x => x.2.2.drop 9
  | none => []
theorem enter_tail {M : Model} {A : Around} {L : Addr} {E : Value → Shared → Prop} {Q : Flow → Shared → Prop} {s : Shared} {nm : PySem.Str} {sc : Scope} {b : List Stmt} {st : Stmt} {rest : List Stmt} (e : rightParts = some (nm, sc, b)) (e2 : b.drop 9 = st :: rest) (h : wpAny M (A.deeper (envOfC nm sc L 171 (.ref 170))) (execs (st :: rest) (envOfC nm sc L 171 (.ref 170))) Q E s) : wpAny M (A.deeper (rightEnv L)) (execs tailRest (rightEnv L)) Q E s := by
  unfold tailRest rightEnv
  rw [e]
  show wpAny M _ (execs (b.drop 9) _) Q E s
  rw [e2]; exact h
local macro_rules | `(tactic| walk_at $s:str) => if s.getString ∈ ["call ref", "exec For Name Tuple cons nil", "CompSrc"] then `(tactic| (refine Stop.mk ?_)) else Lean.Macro.throwUnsupported
local macro_rules | `(tactic| walk_at "callWith ref") => `(tactic| (refine' callWith_F ?k1 ?_; (case k1 => k_dflt (exact FnAt.of (by k_asm) (by k_mem)))))
theorem right_tail (w : World) {p : Program} {loose : List PySem.Str} {mean : ExcName → Option Value} {mg mb : PySem.Str → Option Value} {dp un : Nat} {gd : Option (List Code)} {cn : PySem.Str} {cs : Scope} {a : Addr} {ccd : Value} {cl : List (PySem.Str × Addr)} {outer : List Env} {base g h : Heap} {L L0 : Addr} {s : Shared} {tk : Nat} {Q : Flow → Shared → Prop} {E : Value → Shared → Prop} {m : PySem.Str → Option Value}
    {dT dA : Addr} {fix top b : Led} {k : Nat} {oct oca : Obj}
    (B : Below (ktrTop dp un gd cn cs L0 a ccd cl outer) base (envX cn cs L0 a ccd cl :: outer) g) (X : (K0 w.params).In g) (T : Top p loose mean mg mb g) (C1 : CodeHd g 61 57) (C2 : CodeHd g 170 168) (hd : dp < 800) (hu : un < 8 * 800)
    (hI : InvR w dT dA fix k b) (hk : k ≤ 20000)
    (mt : (L + 1 + 1, oct) ∈ fix) (hct : oct.data = .cell (some (.ref dT))) (ma : (L + 1, oca) ∈ fix) (hca : oca.data = .cell (some (.ref dA))) (lT : (dT == sysModules) = false) (lA : (dA == sysModules) = false)
    (F : Fr g L h m) (N : News g L h (top ++ b)) (ret : ∀ h' tk' m' n', Fr g L h' m' → News g L h' n' → (∀ p ∈ top, p ∈ n') → (∃ ps, (57, tabObj ps) ∈ n') → Q (.ret (.bool true)) { s with heap := h', toks := tk' }) :
    wpAny (model P0 w) ((ktrTop dp un gd cn cs L0 a ccd cl outer).deeper (rightEnv L)) (execs tailRest (rightEnv L)) Q E { s with heap := h, toks := tk } := by
  obtain ⟨ps, oT, oA, kvT, kvA, kr, t1, t2, t3, t4, t5, t6, t7, t8, rfl⟩ := hI
  have ct : (L + 1 + 1, oct) ∈ top ++ ((57, tabObj ps) :: (dT, oT) :: (dA, oA) :: (kr ++ fix)) := by simp [mt]
  have ca : (L + 1, oca) ∈ top ++ ((57, tabObj ps) :: (dT, oT) :: (dA, oA) :: (kr ++ fix)) := by simp [ma]
  have dt : (dT, oT) ∈ top ++ ((57, tabObj ps) :: (dT, oT) :: (dA, oA) :: (kr ++ fix)) := by simp
  have da : (dA, oA) ∈ top ++ ((57, tabObj ps) :: (dT, oT) :: (dA, oA) :: (kr ++ fix)) := by simp
  have ht5 : (57, tabObj ps) ∈ top ++ ((57, tabObj ps) :: (dT, oT) :: (dA, oA) :: (kr ++ fix)) := by simp
  have htop : ∀ p ∈ top, p ∈ top ++ ((57, tabObj ps) :: (dT, oT) :: (dA, oA) :: (kr ++ fix)) := fun p hp => List.mem_append_left _ hp
  generalize top ++ ((57, tabObj ps) :: (dT, oT) :: (dA, oA) :: (kr ++ fix)) = led at *
  w_on
  refine' enter_tail ?ent ?ent2 ?_
  case ent => exact rfl
  case ent2 => exact rfl
  k_steps
  refine Stop.go (ListComp_D (F₀ := by assumption) (by with_unfolding_all rfl) (by decide) (by rfl) (by decide) (by rfl) ?_)
  k_steps
  refine ⟨dA, oA, kvA, led, rfl, lA, rfl, by assumption, by assumption, da, t3, le_sizeLine (by omega), ?test1, ?fin1⟩
  case test1 =>
    intro key v t C oC m₂ h5 g5 tk5 E5 ld hkey ho hx5 F5 N5 hC hsub
    obtain ⟨ws, qs, _, rfl, rfl⟩ := t7 key v hkey
    have da' := hsub _ da
    have ca' := hsub _ ca
    clear F N
    k_steps
    exact TEnd.mk F5 N5 Sub.refl
  case fin1 =>
    intro D h5 tk5 F5 N5 off5
    clear F N
    k_steps
    refine Stop.go (ListComp_D (F₀ := by assumption) (by with_unfolding_all rfl) (by decide) (by rfl) (by decide) (by rfl) ?_)
    k_steps
    refine ⟨dT, oT, kvT, _, rfl, lT, rfl, by assumption, by assumption, List.mem_cons_of_mem _ dt, t2, le_sizeLine (by omega), ?test2, ?fin2⟩
    case test2 =>
      intro key v t C oC m₂ h6 g6 tk6 E6 ld hkey ho hx6 F6 N6 hC hsub
      obtain ⟨l, vs, tl, cap, rfl, _⟩ := t6.2 key.cps.toList v hkey
      have dt' := hsub _ (List.mem_cons_of_mem _ dt)
      have ct' := hsub _ (List.mem_cons_of_mem _ ct)
      clear F5 N5
      k_steps
      exact TEnd.mk F6 N6 Sub.refl
    case fin2 =>
      intro D2 h6 tk6 F6 N6 off6
      clear F5 N5
      k_steps
      exact ret _ _ _ _ (by assumption) (by assumption) (fun p hp => .tail _ (.tail _ (.tail _ (htop p hp)))) ⟨ps, .tail _ (.tail _ (.tail _ ht5))⟩
end S_Ra
section S_Rn
local macro_rules | `(tactic| walk_at "execs cons") => `(tactic| ((with_reducible show wpAny _ _ (execs [Stmt.If (Expr.ListComp _ _ _ _) _ _ _, _] _) _ _ _); refine Stop.mk ?_))
local macro_rules | `(tactic| walk_at $s:str) => if s.getString ∈ ["call ref", "exec For Name Tuple cons nil", "CompSrc"] then `(tactic| (refine Stop.mk ?_)) else Lean.Macro.throwUnsupported
local macro_rules | `(tactic| walk_at "callWith ref") => `(tactic| (refine' callWith_F ?k1 ?_; (case k1 => k_dflt (exact FnAt.of (by k_asm) (by k_mem)))))
section
variable {prog : Program} {w : World} {A : Around} {E : Value → Shared → Prop} {s : Shared} {h₀ : Heap} {L : Addr} {m : PySem.Str → Option Value} {news : Led} {Q : Value → Shared → Prop}
theorem none_refs {l : Addr} {vs : List Value} {cap : Nat} (N : News h₀ L s.heap news) (hm : (l, W.listOf vs.toArray cap) ∈ news) (hv : ∀ v ∈ vs, ∃ a i n, v = .ref a ∧ (a, W.listOf i n) ∈ news) (hu : A.in1.units < cLine) (h : Q (.bool false) s) : wpAny (model prog w) A (compareOp .In .none (.ref l)) Q E s := by
  refine PySem.SeqAt.in_listAt (fun _ => false) (isList_of N hm) (fun y hy => ?_) ?_
  · obtain ⟨a, i, n, rfl, ha⟩ := hv y (by simpa using hy)
    exact PySem.SeqAt.EqAt.list_none (isList_of N ha) hu
  · rw [List.any_toArray, List.any_eq_false.mpr fun _ _ => by decide]; exact h
end
noncomputable abbrev lstO (ys : List Value) : Obj := PyProof.Rows.LCg.lst ys
inductive JE (w : World) (dT dA : Addr) (fix topp : Led) (m0 : PySem.Str → Option Value) (kk : Nat) (i : Nat) (m' : PySem.Str → Option Value) (n' : Led) : Prop
  | mk (c1 : KeptK [PySem.Str.ofString "text"] m0 m') (b : Led) (k : Nat) (c2 : InvR w dT dA fix k b) (c3 : k ≤ kk + 1000 * i) (c4 : Apart topp b) (c5 : n' = topp ++ b) : JE w dT dA fix topp m0 kk i m' n'
inductive Four (top b : Led) (b2 b3 : Bool) (i : Nat) (v : Value) : Prop
  | mk (a : Addr) (vs : Array Value) (n : Nat) (x : Int) (bb : Bool) (c1 : v = .ref a) (c2 : (a, W.listOf vs n) ∈ top ++ b) (c3 : vs.size ≤ 100000) (c4 : ((vs.size : Nat) : Int) = x) (c5 : decide (x > 0) = bb) (c6 : [Value.bool b2, .bool b3, .bool b2, .bool b3].take (i + 1) = [Value.bool b2, .bool b3, .bool b2, .bool b3].take i ++ [.bool bb]) : Four top b b2 b3 i v
namespace Kend
abbrev Par : Type := (World) × (Program) × (List PySem.Str) × (ExcName → Option Value) × (PySem.Str → Option Value) × (PySem.Str → Option Value) × (Nat) × (Nat) × (Option (List Code)) × (PySem.Str) × (Scope) × (Addr) × (Value) × (List (PySem.Str × Addr)) × (List Env) × (Heap) × (Heap) × (Heap) × (Addr) × (Addr) × (Shared) × (Nat) × (Flow → Shared → Prop) × (Value → Shared → Prop) × (Option Value) × (Addr) × (Addr) × (Addr) × (Addr) × (Addr) × (Addr) × (Addr) × (Addr) × (Addr) × (Addr) × (Addr) × (Nat) × (Nat) × (Nat) × (Nat) × (Nat) × (Nat) × (Nat) × (List Nat) × (List Nat) × (List Nat) × (Tok) × (Tok) × (Tok) × (Tok) × (List (List Nat)) × (List (List Nat)) × (List (List Nat)) × (List (List Nat)) × (List Value) × (List Value) × (List Value) × (List Value) × (Prop) × (Prop) × (Obj) × (Obj) × (Led) × (Led) × (Led) × (Nat) × (Obj) × (Obj)
theorem ne : Nonempty Par := ⟨by refine ⟨?_, ?_, ?_, ?_, ?_, ?_, ?_, ?_, ?_, ?_, ?_, ?_, ?_, ?_, ?_, ?_, ?_, ?_, ?_, ?_, ?_, ?_, ?_, ?_, ?_, ?_, ?_, ?_, ?_, ?_, ?_, ?_, ?_, ?_, ?_, ?_, ?_, ?_, ?_, ?_, ?_, ?_, ?_, ?_, ?_, ?_, ?_, ?_, ?_, ?_, ?_, ?_, ?_, ?_, ?_, ?_, ?_, ?_, ?_, ?_, ?_, ?_, ?_, ?_, ?_, ?_, ?_, ?_⟩ <;> first | exact W0 | exact default | exact {} | exact FD0⟩
noncomputable def Goal : Par → Prop := fun e0 => (fun (w : World) (p : Program) (loose : List PySem.Str) (mean : ExcName → Option Value) (mg : PySem.Str → Option Value) (mb : PySem.Str → Option Value) (dp : Nat) (un : Nat) (gd : Option (List Code)) (cn : PySem.Str) (cs : Scope) (a : Addr) (ccd : Value) (cl : List (PySem.Str × Addr)) (outer : List Env) (base : Heap) (g : Heap) (h : Heap) (L : Addr) (L0 : Addr) (s : Shared) (tk : Nat) (Q : Flow → Shared → Prop) (E : Value → Shared → Prop) (pt : Option Value) (lc : Addr) (lL : Addr) (lR : Addr) (f1 : Addr) (f2 : Addr) (dT : Addr) (dA : Addr) (r1 : Addr) (r2 : Addr) (r3 : Addr) (r4 : Addr) (cc : Nat) (qL : Nat) (qR : Nat) (q1 : Nat) (q2 : Nat) (q3 : Nat) (q4 : Nat) (A1 : List Nat) (A2 : List Nat) (A3 : List Nat) (ta : Tok) (tb : Tok) (tc : Tok) (tm : Tok) (e1 : List (List Nat)) (e2 : List (List Nat)) (e3 : List (List Nat)) (e4 : List (List Nat)) (v1 : List Value) (v2 : List Value) (v3 : List Value) (v4 : List Value) (amb2 : Prop) (amb3 : Prop) (fo1 : Obj) (fo2 : Obj) (fix : Led) (top : Led) (b : Led) (k : Nat) (oct : Obj) (oca : Obj) => (msg : List Nat) → (B : Below (ktrTop dp un gd cn cs L0 a ccd cl outer) base (envX cn cs L0 a ccd cl :: outer) g) → (X : (K0 w.params).In g) → (T : Top p loose mean mg mb g) → (C1 : CodeHd g 61 57) → (C2 : CodeHd g 170 168) → (hd : dp < 800) → (hu : un < 8 * 800) → (K : LawOk A1 A2 A3 msg amb2 amb3) → (hRL : RestC w 870 f1 fo1 restL DmR (InvR w dT dA fix)) → (hRR : RestC w 870 f2 fo2 aheadL DmR (InvR w dT dA fix)) → (hI : InvR w dT dA fix k b) → (hk : k ≤ 4000) → (ap : Apart top b) → (z1 : RRes amb2 (fun _ => True) e1) → (z2 : RRes amb2 (fun _ => True) e2) → (z3 : RRes amb3 (fun m => RdOk aheadL [A1, A2, A3] m ∧ 2 ≤ readingsL aheadL [A1, A2, A3] m) e3) → (z4 : RRes amb3 (fun m => RdOk restL [A1, A2, A3] m ∧ 2 ≤ readingsL restL [A1, A2, A3] m) e4) → (y1 : F2 TxtV e1 v1) → (y2 : F2 TxtV e2 v2) → (y3 : F2 TxtV e3 v3) → (y4 : F2 TxtV e4 v4) → (mc : (lc, W.listOf #[.str (tx A1) ta, .str (tx A2) tb, .str (tx A3) tc] cc) ∈ top) → (mL : (lL, W.listOf #[.ref r1, .ref r3] qL) ∈ top) → (mR : (lR, W.listOf #[.ref r2, .ref r4] qR) ∈ top) → (m1 : (r1, W.listOf v1.toArray q1) ∈ top) → (m2 : (r2, W.listOf v2.toArray q2) ∈ top) → (m3 : (r3, W.listOf v3.toArray q3) ∈ top) → (m4 : (r4, W.listOf v4.toArray q4) ∈ top) → (mt : (L + 1 + 1, oct) ∈ fix) → (hct : oct.data = .cell (some (.ref dT))) → (ma : (L + 1, oca) ∈ fix) → (hca : oca.data = .cell (some (.ref dA))) → (lT : (dT == sysModules) = false) → (lA : (dA == sysModules) = false) → (F : Fr g L h (fun x => if x = PySem.Str.ofString "part" then pt else if x = PySem.Str.ofString "rights" then some (.ref lR) else if x = PySem.Str.ofString "lefts" then some (.ref lL) else if x = PySem.Str.ofString "_law_from_right" then some (.ref f2) else if x = PySem.Str.ofString "_law_from_left" then some (.ref f1) else if x = PySem.Str.ofString "message" then some (.str (tx msg) tm) else if x = PySem.Str.ofString "code" then some (.ref lc) else none)) → (N : News g L h (top ++ b)) → (hE : PassesOwn (model P0 w) ((ktrTop dp un gd cn cs L0 a ccd cl outer).deeper (rightEnv L)) (rightEnv L) E) → (ret : ∀ h' tk' m' n', Fr g L h' m' → News g L h' n' → (∀ p ∈ top, p ∈ n') → (∃ ps, (57, tabObj ps) ∈ n') → Q (.ret (.bool true)) { s with heap := h', toks := tk' }) → wpAny (model P0 w) ((ktrTop dp un gd cn cs L0 a ccd cl outer).deeper (rightEnv L)) (execs rightRest (rightEnv L)) Q E { s with heap := h, toks := tk }) e0.1 e0.2.1 e0.2.2.1 e0.2.2.2.1 e0.2.2.2.2.1 e0.2.2.2.2.2.1 e0.2.2.2.2.2.2.1 e0.2.2.2.2.2.2.2.1 e0.2.2.2.2.2.2.2.2.1 e0.2.2.2.2.2.2.2.2.2.1 e0.2.2.2.2.2.2.2.2.2.2.1 e0.2.2.2.2.2.2.2.2.2.2.2.1 e0.2.2.2.2.2.2.2.2.2.2.2.2.1 e0.2.2.2.2.2.2.2.2.2.2.2.2.2.1 e0.2.2.2.2.2.2.2.2.2.2.2.2.2.2.1 e0.2.2.2.2.2.2.2.2.2.2.2.2.2.2.2.1 e0.2.2.2.2.2.2.2.2.2.2.2.2.2.2.2.2.1 e0.2.2.2.2.2.2.2.2.2.2.2.2.2.2.2.2.2.1 e0.2.2.2.2.2.2.2.2.2.2.2.2.2.2.2.2.2.2.1 e0.2.2.2.2.2.2.2.2.2.2.2.2.2.2.2.2.2.2.2.1 e0.2.2.2.2.2.2.2.2.2.2.2.2.2.2.2.2.2.2.2.2.1 e0.2.2.2.2.2.2.2.2.2.2.2.2.2.2.2.2.2.2.2.2.2.1 e0.2.2.2.2.2.2.2.2.2.2.2.2.2.2.2.2.2.2.2.2.2.2.1 e0.2.2.2.2.2.2.2.2.2.2.2.2.2.2.2.2.2.2.2.2.2.2.2.1 e0.2.2.2.2.2.2.2.2.2.2.2.2.2.2.2.2.2.2.2.2.2.2.2.2.1 e0.2.2.2.2.2.2.2.2.2.2.2.2.2.2.2.2.2.2.2.2.2.2.2.2.2.1 e0.2.2.2.2.2.2.2.2.2.2.2.2.2.2.2.2.2.2.2.2.2.2.2.2.2.2.1 e0.2.2.2.2.2.2.2.2.2.2.2.2.2.2.2.2.2.2.2.2.2.2.2.2.2.2.2.1 e0.2.2.2.2.2.2.2.2.2.2.2.2.2.2.2.2.2.2.2.2.2.2.2.2.2.2.2.2.1 e0.2.2.2.2.2.2.2.2.2.2.2.2.2.2.2.2.2.2.2.2.2.2.2.2.2.2.2.2.2.1 e0.2.2.2.2.2.2.2.2.2.2.2.2.2.2.2.2.2.2.2.2.2.2.2.2.2.2.2.2.2.2.1 e0.2.2.2.2.2.2.2.2.2.2.2.2.2.2.2.2.2.2.2.2.2.2.2.2.2.2.2.2.2.2.2.1 e0.2.2.2.2.2.2.2.2.2.2.2.2.2.2.2.2.2.2.2.2.2.2.2.2.2.2.2.2.2.2.2.2.1 e0.2.2.2.2.2.2.2.2.2.2.2.2.2.2.2.2.2.2.2.2.2.2.2.2.2.2.2.2.2.2.2.2.2.1 e0.2.2.2.2.2.2.2.2.2.2.2.2.2.2.2.2.2.2.2.2.2.2.2.2.2.2.2.2.2.2.2.2.2.2.1 e0.2.2.2.2.2.2.2.2.2.2.2.2.2.2.2.2.2.2.2.2.2.2.2.2.2.2.2.2.2.2.2.2.2.2.2.1 e0.2.2.2.2.2.2.2.2.2.2.2.2.2.2.2.2.2.2.2.2.2.2.2.2.2.2.2.2.2.2.2.2.2.2.2.2.1 e0.2.2.2.2.2.2.2.2.2.2.2.2.2.2.2.2.2.2.2.2.2.2.2.2.2.2.2.2.2.2.2.2.2.2.2.2.2.1 e0.2.2.2.2.2.2.2.2.2.2.2.2.2.2.2.2.2.2.2.2.2.2.2.2.2.2.2.2.2.2.2.2.2.2.2.2.2.2.1 e0.2.2.2.2.2.2.2.2.2.2.2.2.2.2.2.2.2.2.2.2.2.2.2.2.2.2.2.2.2.2.2.2.2.2.2.2.2.2.2.1 e0.2.2.2.2.2.2.2.2.2.2.2.2.2.2.2.2.2.2.2.2.2.2.2.2.2.2.2.2.2.2.2.2.2.2.2.2.2.2.2.2.1 e0.2.2.2.2.2.2.2.2.2.2.2.2.2.2.2.2.2.2.2.2.2.2.2.2.2.2.2.2.2.2.2.2.2.2.2.2.2.2.2.2.2.1 e0.2.2.2.2.2.2.2.2.2.2.2.2.2.2.2.2.2.2.2.2.2.2.2.2.2.2.2.2.2.2.2.2.2.2.2.2.2.2.2.2.2.2.1 e0.2.2.2.2.2.2.2.2.2.2.2.2.2.2.2.2.2.2.2.2.2.2.2.2.2.2.2.2.2.2.2.2.2.2.2.2.2.2.2.2.2.2.2.1 e0.2.2.2.2.2.2.2.2.2.2.2.2.2.2.2.2.2.2.2.2.2.2.2.2.2.2.2.2.2.2.2.2.2.2.2.2.2.2.2.2.2.2.2.2.1 e0.2.2.2.2.2.2.2.2.2.2.2.2.2.2.2.2.2.2.2.2.2.2.2.2.2.2.2.2.2.2.2.2.2.2.2.2.2.2.2.2.2.2.2.2.2.1 e0.2.2.2.2.2.2.2.2.2.2.2.2.2.2.2.2.2.2.2.2.2.2.2.2.2.2.2.2.2.2.2.2.2.2.2.2.2.2.2.2.2.2.2.2.2.2.1 e0.2.2.2.2.2.2.2.2.2.2.2.2.2.2.2.2.2.2.2.2.2.2.2.2.2.2.2.2.2.2.2.2.2.2.2.2.2.2.2.2.2.2.2.2.2.2.2.1 e0.2.2.2.2.2.2.2.2.2.2.2.2.2.2.2.2.2.2.2.2.2.2.2.2.2.2.2.2.2.2.2.2.2.2.2.2.2.2.2.2.2.2.2.2.2.2.2.2.1 e0.2.2.2.2.2.2.2.2.2.2.2.2.2.2.2.2.2.2.2.2.2.2.2.2.2.2.2.2.2.2.2.2.2.2.2.2.2.2.2.2.2.2.2.2.2.2.2.2.2.1 e0.2.2.2.2.2.2.2.2.2.2.2.2.2.2.2.2.2.2.2.2.2.2.2.2.2.2.2.2.2.2.2.2.2.2.2.2.2.2.2.2.2.2.2.2.2.2.2.2.2.2.1 e0.2.2.2.2.2.2.2.2.2.2.2.2.2.2.2.2.2.2.2.2.2.2.2.2.2.2.2.2.2.2.2.2.2.2.2.2.2.2.2.2.2.2.2.2.2.2.2.2.2.2.2.1 e0.2.2.2.2.2.2.2.2.2.2.2.2.2.2.2.2.2.2.2.2.2.2.2.2.2.2.2.2.2.2.2.2.2.2.2.2.2.2.2.2.2.2.2.2.2.2.2.2.2.2.2.2.1 e0.2.2.2.2.2.2.2.2.2.2.2.2.2.2.2.2.2.2.2.2.2.2.2.2.2.2.2.2.2.2.2.2.2.2.2.2.2.2.2.2.2.2.2.2.2.2.2.2.2.2.2.2.2.1 e0.2.2.2.2.2.2.2.2.2.2.2.2.2.2.2.2.2.2.2.2.2.2.2.2.2.2.2.2.2.2.2.2.2.2.2.2.2.2.2.2.2.2.2.2.2.2.2.2.2.2.2.2.2.2.1 e0.2.2.2.2.2.2.2.2.2.2.2.2.2.2.2.2.2.2.2.2.2.2.2.2.2.2.2.2.2.2.2.2.2.2.2.2.2.2.2.2.2.2.2.2.2.2.2.2.2.2.2.2.2.2.2.1 e0.2.2.2.2.2.2.2.2.2.2.2.2.2.2.2.2.2.2.2.2.2.2.2.2.2.2.2.2.2.2.2.2.2.2.2.2.2.2.2.2.2.2.2.2.2.2.2.2.2.2.2.2.2.2.2.2.1 e0.2.2.2.2.2.2.2.2.2.2.2.2.2.2.2.2.2.2.2.2.2.2.2.2.2.2.2.2.2.2.2.2.2.2.2.2.2.2.2.2.2.2.2.2.2.2.2.2.2.2.2.2.2.2.2.2.2.1 e0.2.2.2.2.2.2.2.2.2.2.2.2.2.2.2.2.2.2.2.2.2.2.2.2.2.2.2.2.2.2.2.2.2.2.2.2.2.2.2.2.2.2.2.2.2.2.2.2.2.2.2.2.2.2.2.2.2.2.1 e0.2.2.2.2.2.2.2.2.2.2.2.2.2.2.2.2.2.2.2.2.2.2.2.2.2.2.2.2.2.2.2.2.2.2.2.2.2.2.2.2.2.2.2.2.2.2.2.2.2.2.2.2.2.2.2.2.2.2.2.1 e0.2.2.2.2.2.2.2.2.2.2.2.2.2.2.2.2.2.2.2.2.2.2.2.2.2.2.2.2.2.2.2.2.2.2.2.2.2.2.2.2.2.2.2.2.2.2.2.2.2.2.2.2.2.2.2.2.2.2.2.2.1 e0.2.2.2.2.2.2.2.2.2.2.2.2.2.2.2.2.2.2.2.2.2.2.2.2.2.2.2.2.2.2.2.2.2.2.2.2.2.2.2.2.2.2.2.2.2.2.2.2.2.2.2.2.2.2.2.2.2.2.2.2.2.1 e0.2.2.2.2.2.2.2.2.2.2.2.2.2.2.2.2.2.2.2.2.2.2.2.2.2.2.2.2.2.2.2.2.2.2.2.2.2.2.2.2.2.2.2.2.2.2.2.2.2.2.2.2.2.2.2.2.2.2.2.2.2.2.1 e0.2.2.2.2.2.2.2.2.2.2.2.2.2.2.2.2.2.2.2.2.2.2.2.2.2.2.2.2.2.2.2.2.2.2.2.2.2.2.2.2.2.2.2.2.2.2.2.2.2.2.2.2.2.2.2.2.2.2.2.2.2.2.2.1 e0.2.2.2.2.2.2.2.2.2.2.2.2.2.2.2.2.2.2.2.2.2.2.2.2.2.2.2.2.2.2.2.2.2.2.2.2.2.2.2.2.2.2.2.2.2.2.2.2.2.2.2.2.2.2.2.2.2.2.2.2.2.2.2.2.1 e0.2.2.2.2.2.2.2.2.2.2.2.2.2.2.2.2.2.2.2.2.2.2.2.2.2.2.2.2.2.2.2.2.2.2.2.2.2.2.2.2.2.2.2.2.2.2.2.2.2.2.2.2.2.2.2.2.2.2.2.2.2.2.2.2.2.1 e0.2.2.2.2.2.2.2.2.2.2.2.2.2.2.2.2.2.2.2.2.2.2.2.2.2.2.2.2.2.2.2.2.2.2.2.2.2.2.2.2.2.2.2.2.2.2.2.2.2.2.2.2.2.2.2.2.2.2.2.2.2.2.2.2.2.2.1 e0.2.2.2.2.2.2.2.2.2.2.2.2.2.2.2.2.2.2.2.2.2.2.2.2.2.2.2.2.2.2.2.2.2.2.2.2.2.2.2.2.2.2.2.2.2.2.2.2.2.2.2.2.2.2.2.2.2.2.2.2.2.2.2.2.2.2.2
noncomputable def q : Par := pick ne Goal
@[irreducible] noncomputable def w : World := q.1
@[irreducible] noncomputable def p : Program := q.2.1
@[irreducible] noncomputable def loose : List PySem.Str := q.2.2.1
@[irreducible] noncomputable def mean : ExcName → Option Value := q.2.2.2.1
@[irreducible] noncomputable def mg : PySem.Str → Option Value := q.2.2.2.2.1
@[irreducible] noncomputable def mb : PySem.Str → Option Value := q.2.2.2.2.2.1
@[irreducible] noncomputable def dp : Nat := q.2.2.2.2.2.2.1
@[irreducible] noncomputable def un : Nat := q.2.2.2.2.2.2.2.1
@[irreducible] noncomputable def gd : Option (List Code) := q.2.2.2.2.2.2.2.2.1
@[irreducible] noncomputable def cn : PySem.Str := q.2.2.2.2.2.2.2.2.2.1
@[irreducible] noncomputable def cs : Scope := q.2.2.2.2.2.2.2.2.2.2.1
@[irreducible] noncomputable def a : Addr := q.2.2.2.2.2.2.2.2.2.2.2.1
@[irreducible] noncomputable def ccd : Value := q.2.2.2.2.2.2.2.2.2.2.2.2.1
@[irreducible] noncomputable def cl : List (PySem.Str × Addr) := q.2.2.2.2.2.2.2.2.2.2.2.2.2.1
@[irreducible] noncomputable def outer : List Env := q.2.2.2.2.2.2.2.2.2.2.2.2.2.2.1
@[irreducible] noncomputable def base : Heap := q.2.2.2.2.2.2.2.2.2.2.2.2.2.2.2.1
@[irreducible] noncomputable def g : Heap := q.2.2.2.2.2.2.2.2.2.2.2.2.2.2.2.2.1
@[irreducible] noncomputable def h : Heap := q.2.2.2.2.2.2.2.2.2.2.2.2.2.2.2.2.2.1
@[irreducible] noncomputable def L : Addr := q.2.2.2.2.2.2.2.2.2.2.2.2.2.2.2.2.2.2.1
@[irreducible] noncomputable def L0 : Addr := q.2.2.2.2.2.2.2.2.2.2.2.2.2.2.2.2.2.2.2.1
@[irreducible] noncomputable def s : Shared := q.2.2.2.2.2.2.2.2.2.2.2.2.2.2.2.2.2.2.2.2.1
@[irreducible] noncomputable def tk : Nat := q.2.2.2.2.2.2.2.2.2.2.2.2.2.2.2.2.2.2.2.2.2.1
@[irreducible] noncomputable def Q : Flow → Shared → Prop := q.2.2.2.2.2.2.2.2.2.2.2.2.2.2.2.2.2.2.2.2.2.2.1
@[irreducible] noncomputable def E : Value → Shared → Prop := q.2.2.2.2.2.2.2.2.2.2.2.2.2.2.2.2.2.2.2.2.2.2.2.1
@[irreducible] noncomputable def pt : Option Value := q.2.2.2.2.2.2.2.2.2.2.2.2.2.2.2.2.2.2.2.2.2.2.2.2.1
@[irreducible] noncomputable def lc : Addr := q.2.2.2.2.2.2.2.2.2.2.2.2.2.2.2.2.2.2.2.2.2.2.2.2.2.1
@[irreducible] noncomputable def lL : Addr := q.2.2.2.2.2.2.2.2.2.2.2.2.2.2.2.2.2.2.2.2.2.2.2.2.2.2.1
@[irreducible] noncomputable def lR : Addr := q.2.2.2.2.2.2.2.2.2.2.2.2.2.2.2.2.2.2.2.2.2.2.2.2.2.2.2.1
@[irreducible] noncomputable def f1 : Addr := q.2.2.2.2.2.2.2.2.2.2.2.2.2.2.2.2.2.2.2.2.2.2.2.2.2.2.2.2.1
@[irreducible] noncomputable def f2 : Addr := q.2.2.2.2.2.2.2.2.2.2.2.2.2.2.2.2.2.2.2.2.2.2.2.2.2.2.2.2.2.1
@[irreducible] noncomputable def dT : Addr := q.2.2.2.2.2.2.2.2.2.2.2.2.2.2.2.2.2.2.2.2.2.2.2.2.2.2.2.2.2.2.1
@[irreducible] noncomputable def dA : Addr := q.2.2.2.2.2.2.2.2.2.2.2.2.2.2.2.2.2.2.2.2.2.2.2.2.2.2.2.2.2.2.2.1
@[irreducible] noncomputable def r1 : Addr := q.2.2.2.2.2.2.2.2.2.2.2.2.2.2.2.2.2.2.2.2.2.2.2.2.2.2.2.2.2.2.2.2.1
@[irreducible] noncomputable def r2 : Addr := q.2.2.2.2.2.2.2.2.2.2.2.2.2.2.2.2.2.2.2.2.2.2.2.2.2.2.2.2.2.2.2.2.2.1
@[irreducible] noncomputable def r3 : Addr := q.2.2.2.2.2.2.2.2.2.2.2.2.2.2.2.2.2.2.2.2.2.2.2.2.2.2.2.2.2.2.2.2.2.2.1
@[irreducible] noncomputable def r4 : Addr := q.2.2.2.2.2.2.2.2.2.2.2.2.2.2.2.2.2.2.2.2.2.2.2.2.2.2.2.2.2.2.2.2.2.2.2.1
@[irreducible] noncomputable def cc : Nat := q.2.2.2.2.2.2.2.2.2.2.2.2.2.2.2.2.2.2.2.2.2.2.2.2.2.2.2.2.2.2.2.2.2.2.2.2.1
@[irreducible] noncomputable def qL : Nat := q.2.2.2.2.2.2.2.2.2.2.2.2.2.2.2.2.2.2.2.2.2.2.2.2.2.2.2.2.2.2.2.2.2.2.2.2.2.1
@[irreducible] noncomputable def qR : Nat := q.2.2.2.2.2.2.2.2.2.2.2.2.2.2.2.2.2.2.2.2.2.2.2.2.2.2.2.2.2.2.2.2.2.2.2.2.2.2.1
@[irreducible] noncomputable def q1 : Nat := q.2.2.2.2.2.2.2.2.2.2.2.2.2.2.2.2.2.2.2.2.2.2.2.2.2.2.2.2.2.2.2.2.2.2.2.2.2.2.2.1
@[irreducible] noncomputable def q2 : Nat := q.2.2.2.2.2.2.2.2.2.2.2.2.2.2.2.2.2.2.2.2.2.2.2.2.2.2.2.2.2.2.2.2.2.2.2.2.2.2.2.2.1
@[irreducible] noncomputable def q3 : Nat := q.2.2.2.2.2.2.2.2.2.2.2.2.2.2.2.2.2.2.2.2.2.2.2.2.2.2.2.2.2.2.2.2.2.2.2.2.2.2.2.2.2.1
@[irreducible] noncomputable def q4 : Nat := q.2.2.2.2.2.2.2.2.2.2.2.2.2.2.2.2.2.2.2.2.2.2.2.2.2.2.2.2.2.2.2.2.2.2.2.2.2.2.2.2.2.2.1
@[irreducible] noncomputable def A1 : List Nat := q.2.2.2.2.2.2.2.2.2.2.2.2.2.2.2.2.2.2.2.2.2.2.2.2.2.2.2.2.2.2.2.2.2.2.2.2.2.2.2.2.2.2.2.1
@[irreducible] noncomputable def A2 : List Nat := q.2.2.2.2.2.2.2.2.2.2.2.2.2.2.2.2.2.2.2.2.2.2.2.2.2.2.2.2.2.2.2.2.2.2.2.2.2.2.2.2.2.2.2.2.1
@[irreducible] noncomputable def A3 : List Nat := q.2.2.2.2.2.2.2.2.2.2.2.2.2.2.2.2.2.2.2.2.2.2.2.2.2.2.2.2.2.2.2.2.2.2.2.2.2.2.2.2.2.2.2.2.2.1
@[irreducible] noncomputable def ta : Tok := q.2.2.2.2.2.2.2.2.2.2.2.2.2.2.2.2.2.2.2.2.2.2.2.2.2.2.2.2.2.2.2.2.2.2.2.2.2.2.2.2.2.2.2.2.2.2.1
@[irreducible] noncomputable def tb : Tok := q.2.2.2.2.2.2.2.2.2.2.2.2.2.2.2.2.2.2.2.2.2.2.2.2.2.2.2.2.2.2.2.2.2.2.2.2.2.2.2.2.2.2.2.2.2.2.2.1
@[irreducible] noncomputable def tc : Tok := q.2.2.2.2.2.2.2.2.2.2.2.2.2.2.2.2.2.2.2.2.2.2.2.2.2.2.2.2.2.2.2.2.2.2.2.2.2.2.2.2.2.2.2.2.2.2.2.2.1
@[irreducible] noncomputable def tm : Tok := q.2.2.2.2.2.2.2.2.2.2.2.2.2.2.2.2.2.2.2.2.2.2.2.2.2.2.2.2.2.2.2.2.2.2.2.2.2.2.2.2.2.2.2.2.2.2.2.2.2.1
@[irreducible] noncomputable def e1 : List (List Nat) := q.2.2.2.2.2.2.2.2.2.2.2.2.2.2.2.2.2.2.2.2.2.2.2.2.2.2.2.2.2.2.2.2.2.2.2.2.2.2.2.2.2.2.2.2.2.2.2.2.2.2.1
@[irreducible] noncomputable def e2 : List (List Nat) := q.2.2.2.2.2.2.2.2.2.2.2.2.2.2.2.2.2.2.2.2.2.2.2.2.2.2.2.2.2.2.2.2.2.2.2.2.2.2.2.2.2.2.2.2.2.2.2.2.2.2.2.1
@[irreducible] noncomputable def e3 : List (List Nat) := q.2.2.2.2.2.2.2.2.2.2.2.2.2.2.2.2.2.2.2.2.2.2.2.2.2.2.2.2.2.2.2.2.2.2.2.2.2.2.2.2.2.2.2.2.2.2.2.2.2.2.2.2.1
@[irreducible] noncomputable def e4 : List (List Nat) := q.2.2.2.2.2.2.2.2.2.2.2.2.2.2.2.2.2.2.2.2.2.2.2.2.2.2.2.2.2.2.2.2.2.2.2.2.2.2.2.2.2.2.2.2.2.2.2.2.2.2.2.2.2.1
@[irreducible] noncomputable def v1 : List Value := q.2.2.2.2.2.2.2.2.2.2.2.2.2.2.2.2.2.2.2.2.2.2.2.2.2.2.2.2.2.2.2.2.2.2.2.2.2.2.2.2.2.2.2.2.2.2.2.2.2.2.2.2.2.2.1
@[irreducible] noncomputable def v2 : List Value := q.2.2.2.2.2.2.2.2.2.2.2.2.2.2.2.2.2.2.2.2.2.2.2.2.2.2.2.2.2.2.2.2.2.2.2.2.2.2.2.2.2.2.2.2.2.2.2.2.2.2.2.2.2.2.2.1
@[irreducible] noncomputable def v3 : List Value := q.2.2.2.2.2.2.2.2.2.2.2.2.2.2.2.2.2.2.2.2.2.2.2.2.2.2.2.2.2.2.2.2.2.2.2.2.2.2.2.2.2.2.2.2.2.2.2.2.2.2.2.2.2.2.2.2.1
@[irreducible] noncomputable def v4 : List Value := q.2.2.2.2.2.2.2.2.2.2.2.2.2.2.2.2.2.2.2.2.2.2.2.2.2.2.2.2.2.2.2.2.2.2.2.2.2.2.2.2.2.2.2.2.2.2.2.2.2.2.2.2.2.2.2.2.2.1
@[irreducible] noncomputable def amb2 : Prop := q.2.2.2.2.2.2.2.2.2.2.2.2.2.2.2.2.2.2.2.2.2.2.2.2.2.2.2.2.2.2.2.2.2.2.2.2.2.2.2.2.2.2.2.2.2.2.2.2.2.2.2.2.2.2.2.2.2.2.1
@[irreducible] noncomputable def amb3 : Prop := q.2.2.2.2.2.2.2.2.2.2.2.2.2.2.2.2.2.2.2.2.2.2.2.2.2.2.2.2.2.2.2.2.2.2.2.2.2.2.2.2.2.2.2.2.2.2.2.2.2.2.2.2.2.2.2.2.2.2.2.1
@[irreducible] noncomputable def fo1 : Obj := q.2.2.2.2.2.2.2.2.2.2.2.2.2.2.2.2.2.2.2.2.2.2.2.2.2.2.2.2.2.2.2.2.2.2.2.2.2.2.2.2.2.2.2.2.2.2.2.2.2.2.2.2.2.2.2.2.2.2.2.2.1
@[irreducible] noncomputable def fo2 : Obj := q.2.2.2.2.2.2.2.2.2.2.2.2.2.2.2.2.2.2.2.2.2.2.2.2.2.2.2.2.2.2.2.2.2.2.2.2.2.2.2.2.2.2.2.2.2.2.2.2.2.2.2.2.2.2.2.2.2.2.2.2.2.1
@[irreducible] noncomputable def fix : Led := q.2.2.2.2.2.2.2.2.2.2.2.2.2.2.2.2.2.2.2.2.2.2.2.2.2.2.2.2.2.2.2.2.2.2.2.2.2.2.2.2.2.2.2.2.2.2.2.2.2.2.2.2.2.2.2.2.2.2.2.2.2.2.1
@[irreducible] noncomputable def top : Led := q.2.2.2.2.2.2.2.2.2.2.2.2.2.2.2.2.2.2.2.2.2.2.2.2.2.2.2.2.2.2.2.2.2.2.2.2.2.2.2.2.2.2.2.2.2.2.2.2.2.2.2.2.2.2.2.2.2.2.2.2.2.2.2.1
@[irreducible] noncomputable def b : Led := q.2.2.2.2.2.2.2.2.2.2.2.2.2.2.2.2.2.2.2.2.2.2.2.2.2.2.2.2.2.2.2.2.2.2.2.2.2.2.2.2.2.2.2.2.2.2.2.2.2.2.2.2.2.2.2.2.2.2.2.2.2.2.2.2.1
@[irreducible] noncomputable def k : Nat := q.2.2.2.2.2.2.2.2.2.2.2.2.2.2.2.2.2.2.2.2.2.2.2.2.2.2.2.2.2.2.2.2.2.2.2.2.2.2.2.2.2.2.2.2.2.2.2.2.2.2.2.2.2.2.2.2.2.2.2.2.2.2.2.2.2.1
@[irreducible] noncomputable def oct : Obj := q.2.2.2.2.2.2.2.2.2.2.2.2.2.2.2.2.2.2.2.2.2.2.2.2.2.2.2.2.2.2.2.2.2.2.2.2.2.2.2.2.2.2.2.2.2.2.2.2.2.2.2.2.2.2.2.2.2.2.2.2.2.2.2.2.2.2.1
@[irreducible] noncomputable def oca : Obj := q.2.2.2.2.2.2.2.2.2.2.2.2.2.2.2.2.2.2.2.2.2.2.2.2.2.2.2.2.2.2.2.2.2.2.2.2.2.2.2.2.2.2.2.2.2.2.2.2.2.2.2.2.2.2.2.2.2.2.2.2.2.2.2.2.2.2.2
theorem main (msg : List Nat) (B : Below (ktrTop dp un gd cn cs L0 a ccd cl outer) base (envX cn cs L0 a ccd cl :: outer) g) (X : (K0 w.params).In g) (T : Top p loose mean mg mb g) (C1 : CodeHd g 61 57) (C2 : CodeHd g 170 168) (hd : dp < 800) (hu : un < 8 * 800) (K : LawOk A1 A2 A3 msg amb2 amb3) (hRL : RestC w 870 f1 fo1 restL DmR (InvR w dT dA fix)) (hRR : RestC w 870 f2 fo2 aheadL DmR (InvR w dT dA fix)) (hI : InvR w dT dA fix k b) (hk : k ≤ 4000) (ap : Apart top b) (z1 : RRes amb2 (fun _ => True) e1) (z2 : RRes amb2 (fun _ => True) e2) (z3 : RRes amb3 (fun m => RdOk aheadL [A1, A2, A3] m ∧ 2 ≤ readingsL aheadL [A1, A2, A3] m) e3) (z4 : RRes amb3 (fun m => RdOk restL [A1, A2, A3] m ∧ 2 ≤ readingsL restL [A1, A2, A3] m) e4) (y1 : F2 TxtV e1 v1) (y2 : F2 TxtV e2 v2) (y3 : F2 TxtV e3 v3) (y4 : F2 TxtV e4 v4) (mc : (lc, W.listOf #[.str (tx A1) ta, .str (tx A2) tb, .str (tx A3) tc] cc) ∈ top) (mL : (lL, W.listOf #[.ref r1, .ref r3] qL) ∈ top) (mR : (lR, W.listOf #[.ref r2, .ref r4] qR) ∈ top) (m1 : (r1, W.listOf v1.toArray q1) ∈ top) (m2 : (r2, W.listOf v2.toArray q2) ∈ top) (m3 : (r3, W.listOf v3.toArray q3) ∈ top) (m4 : (r4, W.listOf v4.toArray q4) ∈ top) (mt : (L + 1 + 1, oct) ∈ fix) (hct : oct.data = .cell (some (.ref dT))) (ma : (L + 1, oca) ∈ fix) (hca : oca.data = .cell (some (.ref dA))) (lT : (dT == sysModules) = false) (lA : (dA == sysModules) = false) (F : Fr g L h (fun x => if x = PySem.Str.ofString "part" then pt else if x = PySem.Str.ofString "rights" then some (.ref lR) else if x = PySem.Str.ofString "lefts" then some (.ref lL) else if x = PySem.Str.ofString "_law_from_right" then some (.ref f2) else if x = PySem.Str.ofString "_law_from_left" then some (.ref f1) else if x = PySem.Str.ofString "message" then some (.str (tx msg) tm) else if x = PySem.Str.ofString "code" then some (.ref lc) else none)) (N : News g L h (top ++ b)) (hE : PassesOwn (model P0 w) ((ktrTop dp un gd cn cs L0 a ccd cl outer).deeper (rightEnv L)) (rightEnv L) E) (ret : ∀ h' tk' m' n', Fr g L h' m' → News g L h' n' → (∀ p ∈ top, p ∈ n') → (∃ ps, (57, tabObj ps) ∈ n') → Q (.ret (.bool true)) { s with heap := h', toks := tk' }) : wpAny (model P0 w) ((ktrTop dp un gd cn cs L0 a ccd cl outer).deeper (rightEnv L)) (execs rightRest (rightEnv L)) Q E { s with heap := h, toks := tk } := by
  classical
  obtain ⟨b2, hb2⟩ : ∃ b2 : Bool, amb2 ↔ b2 = true := ⟨decide amb2, by simp⟩
  obtain ⟨b3, hb3⟩ : ∃ b3 : Bool, amb3 ↔ b3 = true := ⟨decide amb3, by simp⟩
  have i0 : ItemAt #[Value.str (tx A1) ta, .str (tx A2) tb, .str (tx A3) tc] 0 (.str (tx A1) ta) := ⟨Nat.le_of_ble_eq_true rfl, .inl ⟨Int.le_refl 0, rfl⟩⟩
  have i1 : ItemAt #[Value.str (tx A1) ta, .str (tx A2) tb, .str (tx A3) tc] 1 (.str (tx A2) tb) := ⟨Nat.le_of_ble_eq_true rfl, .inl ⟨by decide, rfl⟩⟩
  have g1 : (tx A1 : PySem.Str) ++ PySem.Str.ofString "." = tx (A1 ++ [46]) := tx_append A1 [46]
  have g2 : (tx (A1 ++ [46]) : PySem.Str) ++ tx A2 = tx (A1 ++ 46 :: A2) := by rw [tx_append, List.append_assoc]; rfl
  have g3 : (tx A2 : PySem.Str) ++ PySem.Str.ofString "." = tx (A2 ++ [46]) := tx_append A2 [46]
  have g4 : (tx (A2 ++ [46]) : PySem.Str) ++ tx A1 = tx (A2 ++ 46 :: A1) := by rw [tx_append, List.append_assoc]; rfl
  have hl1 := K.le1
  have hl2 := K.le2
  have hsame : (tx (A1 ++ 46 :: A2) == tx (A2 ++ 46 :: A1)) = b2 := by
    by_cases e : A1 ++ 46 :: A2 = A2 ++ 46 :: A1
    · rw [e, beq_self_eq_true, hb2.mp (K.same.mp e)]
    · have : ¬ b2 = true := fun h => e (K.same.mpr (hb2.mpr h))
      rw [tx_ne e, Bool.eq_false_iff.mpr this]
  have hz1 : ((v1.toArray.size : Nat) : Int) = ((e1.length : Nat) : Int) := by rw [List.size_toArray, y1.length]
  have hz2 : ((v2.toArray.size : Nat) : Int) = ((e2.length : Nat) : Int) := by rw [List.size_toArray, y2.length]
  have hz3 : ((v3.toArray.size : Nat) : Int) = ((e3.length : Nat) : Int) := by rw [List.size_toArray, y3.length]
  have hz4 : ((v4.toArray.size : Nat) : Int) = ((e4.length : Nat) : Int) := by rw [List.size_toArray, y4.length]
  have hs1 : v1.toArray.size ≤ 100000 := by have := z1.2.2; rw [List.size_toArray, ← y1.length]; omega
  have hs2 : v2.toArray.size ≤ 100000 := by have := z2.2.2; rw [List.size_toArray, ← y2.length]; omega
  have hs3 : v3.toArray.size ≤ 100000 := by have := z3.2.2; rw [List.size_toArray, ← y3.length]; omega
  have hs4 : v4.toArray.size ≤ 100000 := by have := z4.2.2; rw [List.size_toArray, ← y4.length]; omega
  have pos : ∀ {e : List (List Nat)} {amb : Prop} {good : List Nat → Prop} {bb : Bool}, RRes amb good e → (amb ↔ bb = true) → decide (((e.length : Nat) : Int) > 0) = bb := by
    intro e amb good bb z hb
    cases e with
    | nil =>
      have : ¬ bb = true := fun h => z.2.1 rfl (hb.mpr h)
      rw [Bool.eq_false_iff.mpr this]; rfl
    | cons x r => rw [hb.mp (z.1 x List.mem_cons_self).1]; exact decide_eq_true (by first | k_extra "mm" | simp)
  have p1 := pos z1 hb2
  have p2 := pos z2 hb2
  have p3 := pos z3 hb3
  have p4 := pos z4 hb3
  have hsl3 : (slicePick v3.toArray none (some 1) none).toList = v3.take 1 := by
    have := slicePick_upto' v3.toArray 1
    exact (congrArg Array.toList this).trans (by first | k_extra "mm" | simp)
  have hsl4 : (slicePick v4.toArray none (some 1) none).toList = v4.take 1 := by
    have := slicePick_upto' v4.toArray 1
    exact (congrArg Array.toList this).trans (by first | k_extra "mm" | simp)
  have iL : ItemAt #[Value.ref r1, .ref r3] 1 (.ref r3) := ⟨Nat.le_of_ble_eq_true rfl, .inl ⟨by decide, rfl⟩⟩
  have iR : ItemAt #[Value.ref r2, .ref r4] 1 (.ref r4) := ⟨Nat.le_of_ble_eq_true rfl, .inl ⟨by decide, rfl⟩⟩
  have mc' := List.mem_append_left b mc
  have m1' := List.mem_append_left b m1
  have m2' := List.mem_append_left b m2
  have m3' := List.mem_append_left b m3
  have m4' := List.mem_append_left b m4
  have mL' := List.mem_append_left b mL
  have mR' := List.mem_append_left b mR
  w_on
  refine' enter_rest ?ent ?_
  case ent => exact rfl
  k_steps
  refine none_refs (A := _) N (List.mem_append_left _ mL) (List.forall_mem_cons.mpr ⟨⟨_, _, _, rfl, List.mem_append_left _ m1⟩, List.forall_mem_singleton.mpr ⟨_, _, _, rfl, List.mem_append_left _ m3⟩⟩) (by (simp only [units_in1, units_deeper]; unfold cLine; omega)) ?_
  k_steps
  refine none_refs (A := _) N (List.mem_append_left _ mR) (List.forall_mem_cons.mpr ⟨⟨_, _, _, rfl, List.mem_append_left _ m2⟩, List.forall_mem_singleton.mpr ⟨_, _, _, rfl, List.mem_append_left _ m4⟩⟩) (by (simp only [units_in1, units_deeper]; unfold cLine; omega)) ?_
  k_steps
  refine Stop.go (PyProof.Rows.LCg.Assign_ListComp_U (F₀ := by assumption) rfl (by with_unfolding_all rfl) (by with_unfolding_all rfl) (by decide) (by rfl) (by decide) (by rfl) (by rfl) (by rfl) ?_)
  k_steps
  rename_i D4 hq4 F4 N4 lD4
  refine Stop.go (comp_inv (k := 0) (its := [.ref r1, .ref r3, .ref r2, .ref r4]) (fun i ys => ys = [Value.bool b2, .bool b3, .bool b2, .bool b3].take i) rfl F4 N4 List.mem_cons_self (Nat.le_of_ble_eq_true rfl) rfl ?step4 ?fin4)
  case step4 =>
    intro i ys v I oI C oC D m₂ h5 g5 tk5 E5 hi hj ho hx5 F5 N5
    obtain ⟨a5, vs5, n5, x5, bb, rfl, k1, k2, k3, k4, k5⟩ : Four top b b2 b3 i v := by
      match i, hi with
      | 0, e => cases e; exact ⟨_, _, _, _, _, rfl, m1', hs1, hz1, p1, rfl⟩
      | 1, e => cases e; exact ⟨_, _, _, _, _, rfl, m3', hs3, hz3, p3, rfl⟩
      | 2, e => cases e; exact ⟨_, _, _, _, _, rfl, m2', hs2, hz2, p2, rfl⟩
      | 3, e => cases e; exact ⟨_, _, _, _, _, rfl, m4', hs4, hz4, p4, rfl⟩
      | n + 4, e => simp at e
    k_steps
    exact EEnd.mk F5 N5 Sub.refl (by rw [k5, hj, k4])
  case fin4 =>
  rintro g5 ys rfl D5 h5 tk5 F5 N5 off5
  have j0 : ItemAt ([Value.bool b2, .bool b3, .bool b2, .bool b3].take 4).toArray 0 (.bool b2) := ⟨Nat.le_of_ble_eq_true rfl, .inl ⟨Int.le_refl 0, rfl⟩⟩
  have j1 : ItemAt ([Value.bool b2, .bool b3, .bool b2, .bool b3].take 4).toArray 1 (.bool b3) := ⟨Nat.le_of_ble_eq_true rfl, .inl ⟨by decide, rfl⟩⟩
  have j2 : ItemAt ([Value.bool b2, .bool b3, .bool b2, .bool b3].take 4).toArray 2 (.bool b2) := ⟨Nat.le_of_ble_eq_true rfl, .inl ⟨by decide, rfl⟩⟩
  have j3 : ItemAt ([Value.bool b2, .bool b3, .bool b2, .bool b3].take 4).toArray 3 (.bool b3) := ⟨Nat.le_of_ble_eq_true rfl, .inl ⟨by decide, rfl⟩⟩
  clear F4 N4
  rw [hsame] at F5
  have nb2 : (b2 != b2) = false := by cases b2 <;> rfl
  have nb3 : (b3 != b3) = false := by cases b3 <;> rfl
  k_steps
  rename News _ _ _ _ => N6
  rename Fr _ _ _ _ => F6
  refine Stop.go (For_turns F6 ?_ (hE := hE))
  k_steps
  rename_i D6 h6 F6 N6 l6
  have a6 : Apart ((D6, W.listOf (v3.take 1).toArray 0) :: (D5, lstO [Value.bool b2, .bool b3, .bool b2, .bool b3]) :: (D4, W.listOf [Value.ref r1, .ref r3, .ref r2, .ref r4].toArray 0) :: top) b :=
    .cons (fun p hp => Nat.ne_of_lt (AllLt.mem l6.2.2 p (List.mem_append_right _ hp))) (.cons (off1_mem off5.2 · <| List.mem_append_right _ ·) (.cons (fun p hp => Nat.ne_of_lt (lD4 p (List.mem_append_right _ hp))) ap))
  refine for_list2 (n := 0) (vs := v3.take 1) (JE w dT dA fix ((D6, W.listOf (v3.take 1).toArray 0) :: (D5, lstO [Value.bool b2, .bool b3, .bool b2, .bool b3]) :: (D4, W.listOf [Value.ref r1, .ref r3, .ref r2, .ref r4].toArray 0) :: top) _ k) rfl F6 N6 List.mem_cons_self ⟨KeptK.refl _ _, b, k, hI, by omega, a6, rfl⟩ ?keep6 ?step6 ?done6
  case keep6 =>
    rintro i m' n' ⟨_, b', k', _, _, _, rfl⟩
    exact List.mem_cons_self
  case step6 =>
    intro i v m' n' h7 tk7 I oI Q15
    rintro hv ⟨hk7, b7, k7, hI7, hkb, ap7, rfl⟩ hoff F' N' hQ15
    have F7 := fr_to F' (mapK_eq hk7)
    clear F' F6 N6
    dsimp only [mapK] at F7
    obtain ⟨mm, hmm, tv, rfl⟩ := (y3.take 1).mem v (List.mem_of_getElem? hv)
    obtain ⟨_, ⟨hlm, P, hP, hPs⟩, hr2⟩ := z3.1 mm (List.mem_of_mem_take hmm)
    have hi : i < 1 := Nat.lt_of_lt_of_le (List.getElem?_eq_some_iff.mp hv).1 (by simp; omega)
    have hlt : decide (((readingsL aheadL [A1, A2, A3] mm : Nat) : Int) < 2) = false := decide_eq_false (by omega)
    k_steps
    rename Fr _ _ _ _ => F7'
    rename News _ _ _ _ => N7'
    refine Stop.go ?_
    refine fn_use (readings w f2 fo2 aheadL DmR (InvR w dT dA fix) hRR lc cc [A1, A2, A3] [.str (tx A1) ta, .str (tx A2) tb, .str (tx A3) tc] mm tv ((I, oI) :: (D6, W.listOf (v3.take 1).toArray 0) :: (D5, lstO [Value.bool b2, .bool b3, .bool b2, .bool b3]) :: (D4, W.listOf [Value.ref r1, .ref r3, .ref r2, .ref r4].toArray 0) :: top) b7 k7 P
      (by simp [mc]) (.cons ⟨_, rfl⟩ (.cons ⟨_, rfl⟩ (.cons ⟨_, rfl⟩ .nil))) hlm (Nat.le_of_ble_eq_true rfl) hP hPs hI7 (by omega) (.cons (fun p hp => hoff p (List.mem_append_right _ hp)) ap7)) B F7' X N7' T C1 C2 (by rfl) (by k_extra "dep") (by k_extra "dep") ?_
    rintro r' n8 h8 tk8 F8 N8 ⟨t5, b8, k8, rfl, i1, i2, i3, rfl⟩
    k_steps
    refine AgainF.next (by assumption) (by assumption) (Sub.cons List.mem_cons_self (fun _ h => nomatch h)) (Sub.skip Sub.refl) ?off6 ⟨by k_extra "kept", b8, k8, i1, by omega, i3.tail, rfl⟩
    case off6 =>
      intro p hp q hq
      rw [List.mem_singleton.mp hq]
      rcases List.mem_append.mp hp with hp | hp
      · exact hoff p (List.mem_append_left _ hp)
      · exact i3.head p hp
  case done6 =>
    rintro m' n' h7 tk7 ⟨hk7, b7, k7, hI7, hkb, ap7, rfl⟩ F' N'
    have F7 := fr_to F' (mapK_eq hk7)
    clear F' F6 N6 hsl3
    dsimp only [mapK] at F7
    have hk9 : k7 ≤ 5000 := Nat.le_trans hkb (by have h1 : (v3.take 1).length ≤ 1 := (by simp; omega); omega)
    have m4'' := List.mem_append_left b7 m4
    have mR'' := List.mem_append_left b7 mR
    have mc'' := List.mem_append_left b7 mc
    k_steps
    refine Stop.go (For_turns F7 ?_ (hE := hE))
    k_steps
    rename_i D7 h8 F8 N8 l8
    have a8 : Apart ((D7, W.listOf (v4.take 1).toArray 0) :: (D6, W.listOf (v3.take 1).toArray 0) :: (D5, lstO [Value.bool b2, .bool b3, .bool b2, .bool b3]) :: (D4, W.listOf [Value.ref r1, .ref r3, .ref r2, .ref r4].toArray 0) :: top) b7 := .cons (fun p hp => Nat.ne_of_lt (l8 p (List.mem_append_right _ hp))) ap7
    refine for_list2 (n := 0) (vs := v4.take 1) (JE w dT dA fix ((D7, W.listOf (v4.take 1).toArray 0) :: (D6, W.listOf (v3.take 1).toArray 0) :: (D5, lstO [Value.bool b2, .bool b3, .bool b2, .bool b3]) :: (D4, W.listOf [Value.ref r1, .ref r3, .ref r2, .ref r4].toArray 0) :: top) _ k7) rfl F8 N8 List.mem_cons_self ⟨KeptK.refl _ _, b7, k7, hI7, by omega, a8, rfl⟩ ?keep8 ?step8 ?done8
    case keep8 =>
      rintro i m' n' ⟨_, b', k', _, _, _, rfl⟩
      exact List.mem_cons_self
    case step8 =>
      intro i v m' n' h9 tk9 I oI Q16
      rintro hv ⟨hk9, b9, k9, hI9, hkb, ap9, rfl⟩ hoff F' N' hQ16
      have F9 := fr_to F' (mapK_eq hk9)
      clear F' F8 N8
      dsimp only [mapK] at F9
      obtain ⟨mm, hmm, tv, rfl⟩ := (y4.take 1).mem v (List.mem_of_getElem? hv)
      obtain ⟨_, ⟨hlm, P, hP, hPs⟩, hr2⟩ := z4.1 mm (List.mem_of_mem_take hmm)
      have hi : i < 1 := Nat.lt_of_lt_of_le (List.getElem?_eq_some_iff.mp hv).1 (by simp; omega)
      have hlt : decide (((readingsL restL [A1, A2, A3] mm : Nat) : Int) < 2) = false := decide_eq_false (by omega)
      k_steps
      rename Fr _ _ _ _ => F9'
      rename News _ _ _ _ => N9'
      refine Stop.go ?_
      refine fn_use (readings w f1 fo1 restL DmR (InvR w dT dA fix) hRL lc cc [A1, A2, A3] [.str (tx A1) ta, .str (tx A2) tb, .str (tx A3) tc] mm tv ((I, oI) :: (D7, W.listOf (v4.take 1).toArray 0) :: (D6, W.listOf (v3.take 1).toArray 0) :: (D5, lstO [Value.bool b2, .bool b3, .bool b2, .bool b3]) :: (D4, W.listOf [Value.ref r1, .ref r3, .ref r2, .ref r4].toArray 0) :: top) b9 k9 P
        (by simp [mc]) (.cons ⟨_, rfl⟩ (.cons ⟨_, rfl⟩ (.cons ⟨_, rfl⟩ .nil))) hlm (Nat.le_of_ble_eq_true rfl) hP hPs hI9 (by omega) (.cons (fun p hp => hoff p (List.mem_append_right _ hp)) ap9)) B F9' X N9' T C1 C2 (by rfl) (by k_extra "dep") (by k_extra "dep") ?_
      rintro r' n10 h10 tk10 F10 N10 ⟨t5, b10, k10, rfl, i1, i2, i3, rfl⟩
      k_steps
      refine AgainF.next (by assumption) (by assumption) (Sub.cons List.mem_cons_self (fun _ h => nomatch h)) (Sub.skip Sub.refl) ?off8 ⟨by k_extra "kept", b10, k10, i1, by omega, i3.tail, rfl⟩
      case off8 =>
        intro p hp q hq
        rw [List.mem_singleton.mp hq]
        rcases List.mem_append.mp hp with hp | hp
        · exact hoff p (List.mem_append_left _ hp)
        · exact i3.head p hp
    case done8 =>
      rintro m' n' h9 tk9 ⟨hk9, b9, k9, hI9, hkb, ap9, rfl⟩ F' N'
      have F9 := fr_to F' (mapK_eq hk9)
      clear F' F8 N8 hsl4
      dsimp only [mapK] at F9
      have hk10 : k9 ≤ 6000 := Nat.le_trans hkb (by have h1 : (v4.take 1).length ≤ 1 := (by simp; omega); omega)
      obtain ⟨hlL, PL, hPL, hPLs⟩ := K.rdL
      obtain ⟨hlR, PR, hPR, hPRs⟩ := K.rdR
      have mc'' := List.mem_append_left b9 mc
      k_steps
      refine Stop.go ?_
      refine fn_use (readings w f1 fo1 restL DmR (InvR w dT dA fix) hRL lc cc [A1, A2, A3] [.str (tx A1) ta, .str (tx A2) tb, .str (tx A3) tc] msg tm ((D7, W.listOf (v4.take 1).toArray 0) :: (D6, W.listOf (v3.take 1).toArray 0) :: (D5, lstO [Value.bool b2, .bool b3, .bool b2, .bool b3]) :: (D4, W.listOf [Value.ref r1, .ref r3, .ref r2, .ref r4].toArray 0) :: top) b9 k9 PL
        (by simp [mc]) (.cons ⟨_, rfl⟩ (.cons ⟨_, rfl⟩ (.cons ⟨_, rfl⟩ .nil))) hlL (Nat.le_of_ble_eq_true rfl) hPL hPLs hI9 (by omega) ap9) B F9 X N' T C1 C2 (by rfl) (by k_extra "dep") (by k_extra "dep") ?_
      rintro r' n10 h10 tk10 F10 N10 ⟨t5, b10, k10, rfl, i1, i2, i3, rfl⟩
      clear F9 N' mc''
      have mc'' := List.mem_append_left b10 mc
      k_steps
      rename Fr _ _ _ _ => F11
      rename News _ _ _ _ => N11
      refine Stop.go ?_
      refine fn_use (readings w f2 fo2 aheadL DmR (InvR w dT dA fix) hRR lc cc [A1, A2, A3] [.str (tx A1) ta, .str (tx A2) tb, .str (tx A3) tc] msg tm ((D7, W.listOf (v4.take 1).toArray 0) :: (D6, W.listOf (v3.take 1).toArray 0) :: (D5, lstO [Value.bool b2, .bool b3, .bool b2, .bool b3]) :: (D4, W.listOf [Value.ref r1, .ref r3, .ref r2, .ref r4].toArray 0) :: top) b10 k10 PR
        (by simp [mc]) (.cons ⟨_, rfl⟩ (.cons ⟨_, rfl⟩ (.cons ⟨_, rfl⟩ .nil))) hlR (Nat.le_of_ble_eq_true rfl) hPR hPRs i1 (by omega) i3) B F11 X N11 T C1 C2 (by rfl) (by k_extra "dep") (by k_extra "dep") ?_
      rintro r' n12 h12 tk12 F12 N12 ⟨t6, b12, k12, rfl, x1, x2, x3, rfl⟩
      have heq := K.eq
      clear F11 N11 mc''
      have q1 : (((readingsL restL [A1, A2, A3] msg : Nat) : Int) != ((readingsL aheadL [A1, A2, A3] msg : Nat) : Int)) = false := by rw [heq]; simp
      have q2 : decide (((readingsL restL [A1, A2, A3] msg : Nat) : Int) < 1) = false := decide_eq_false (by have := K.pos; omega)
      have q3 : 1 < (((readingsL restL [A1, A2, A3] msg : Nat) : Int)) → b3 = true := fun h => hb3.mp (K.many (by omega))
      k_steps
      · refine Stop.go (right_tail w B X T C1 C2 hd hu x1 (by omega) mt hct ma hca lT lA (by assumption) (by assumption) fun h' tk' m' n' FZ NZ z1 z2 => ret h' tk' m' n' FZ NZ (fun p hp => z1 p (by first | k_extra "mm" | simp [hp])) z2)
      · rename_i c1 c2
        exact absurd (q3 c1) (by rw [c2]; decide)
      · refine Stop.go (right_tail w B X T C1 C2 hd hu x1 (by omega) mt hct ma hca lT lA (by assumption) (by assumption) fun h' tk' m' n' FZ NZ z1 z2 => ret h' tk' m' n' FZ NZ (fun p hp => z1 p (by first | k_extra "mm" | simp [hp])) z2)
theorem goal_q : Goal q := by with_unfolding_all exact main
end Kend
theorem right_end (w : World) {p : Program} {loose : List PySem.Str} {mean : ExcName → Option Value} {mg mb : PySem.Str → Option Value} {dp un : Nat} {gd : Option (List Code)} {cn : PySem.Str} {cs : Scope} {a : Addr} {ccd : Value} {cl : List (PySem.Str × Addr)} {outer : List Env} {base g h : Heap} {L L0 : Addr} {s : Shared} {tk : Nat} {Q : Flow → Shared → Prop} {E : Value → Shared → Prop} {pt : Option Value}
    {lc lL lR f1 f2 dT dA r1 r2 r3 r4 : Addr} {cc qL qR q1 q2 q3 q4 : Nat} {A1 A2 A3 msg : List Nat} {ta tb tc tm : Tok} {e1 e2 e3 e4 : List (List Nat)} {v1 v2 v3 v4 : List Value} {amb2 amb3 : Prop} {fo1 fo2 : Obj} {fix top b : Led} {k : Nat} {oct oca : Obj}
    (B : Below (ktrTop dp un gd cn cs L0 a ccd cl outer) base (envX cn cs L0 a ccd cl :: outer) g) (X : (K0 w.params).In g) (T : Top p loose mean mg mb g) (C1 : CodeHd g 61 57) (C2 : CodeHd g 170 168) (hd : dp < 800) (hu : un < 8 * 800)
    (K : LawOk A1 A2 A3 msg amb2 amb3) (hRL : RestC w 870 f1 fo1 restL DmR (InvR w dT dA fix)) (hRR : RestC w 870 f2 fo2 aheadL DmR (InvR w dT dA fix)) (hI : InvR w dT dA fix k b) (hk : k ≤ 4000) (ap : Apart top b)
    (z1 : RRes amb2 (fun _ => True) e1) (z2 : RRes amb2 (fun _ => True) e2) (z3 : RRes amb3 (fun m => RdOk aheadL [A1, A2, A3] m ∧ 2 ≤ readingsL aheadL [A1, A2, A3] m) e3) (z4 : RRes amb3 (fun m => RdOk restL [A1, A2, A3] m ∧ 2 ≤ readingsL restL [A1, A2, A3] m) e4)
    (y1 : F2 TxtV e1 v1) (y2 : F2 TxtV e2 v2) (y3 : F2 TxtV e3 v3) (y4 : F2 TxtV e4 v4)
    (mc : (lc, W.listOf #[.str (tx A1) ta, .str (tx A2) tb, .str (tx A3) tc] cc) ∈ top) (mL : (lL, W.listOf #[.ref r1, .ref r3] qL) ∈ top) (mR : (lR, W.listOf #[.ref r2, .ref r4] qR) ∈ top)
    (m1 : (r1, W.listOf v1.toArray q1) ∈ top) (m2 : (r2, W.listOf v2.toArray q2) ∈ top) (m3 : (r3, W.listOf v3.toArray q3) ∈ top) (m4 : (r4, W.listOf v4.toArray q4) ∈ top)
    (mt : (L + 1 + 1, oct) ∈ fix) (hct : oct.data = .cell (some (.ref dT))) (ma : (L + 1, oca) ∈ fix) (hca : oca.data = .cell (some (.ref dA))) (lT : (dT == sysModules) = false) (lA : (dA == sysModules) = false)
    (F : Fr g L h (fun x => if x = PySem.Str.ofString "part" then pt else if x = PySem.Str.ofString "rights" then some (.ref lR) else if x = PySem.Str.ofString "lefts" then some (.ref lL) else if x = PySem.Str.ofString "_law_from_right" then some (.ref f2) else if x = PySem.Str.ofString "_law_from_left" then some (.ref f1) else
      if x = PySem.Str.ofString "message" then some (.str (tx msg) tm) else if x = PySem.Str.ofString "code" then some (.ref lc) else none))
    (N : News g L h (top ++ b)) (hE : PassesOwn (model P0 w) ((ktrTop dp un gd cn cs L0 a ccd cl outer).deeper (rightEnv L)) (rightEnv L) E) (ret : ∀ h' tk' m' n', Fr g L h' m' → News g L h' n' → (∀ p ∈ top, p ∈ n') → (∃ ps, (57, tabObj ps) ∈ n') → Q (.ret (.bool true)) { s with heap := h', toks := tk' }) :
    wpAny (model P0 w) ((ktrTop dp un gd cn cs L0 a ccd cl outer).deeper (rightEnv L)) (execs rightRest (rightEnv L)) Q E { s with heap := h, toks := tk } := by
  exact pick_all Kend.ne (P := Kend.Goal) Kend.goal_q ⟨w, p, loose, mean, mg, mb, dp, un, gd, cn, cs, a, ccd, cl, outer, base, g, h, L, L0, s, tk, Q, E, pt, lc, lL, lR, f1, f2, dT, dA, r1, r2, r3, r4, cc, qL, qR, q1, q2, q3, q4, A1, A2, A3, ta, tb, tc, tm, e1, e2, e3, e4, v1, v2, v3, v4, amb2, amb3, fo1, fo2, fix, top, b, k, oct, oca⟩ msg B X T C1 C2 hd hu K hRL hRR hI hk ap z1 z2 z3 z4 y1 y2 y3 y4 mc mL mR m1 m2 m3 m4 mt hct ma hca lT lA F N hE ret
end S_Rn
section S_Cz
open PyProof.Rows.LCg PyProof.Rows.LCt
section
variable {prog : Program} {w : World} {A : Around} {E : Value → Shared → Prop} {R : Result → Shared → Prop} {s : Shared} {h₀ : Heap} {L : Addr} {m : PySem.Str → Option Value} {env : Env} {elt ix iy : Expr} {x y : PySem.Str} {px py : Pos} {scope : Scope} {cl : List (PySem.Str × Addr)} {pos : Pos}
noncomputable abbrev lc2 (elt ix iy : Expr) (x y : PySem.Str) (px py : Pos) (scope : Scope) (pos : Pos) : Expr := .ListComp elt [⟨.Name x px, ix, [], 0⟩, ⟨.Name y py, iy, [], 0⟩] scope pos
theorem turn_in (it acc : Value) (cenv : Env) :
    compTurn (lc2 elt ix iy x y px py scope pos) 1 it acc cenv = (standAt iy.pos >>= fun _ => pyNext it >>= fun r => match r with
      | none => pure (.done .next)
      | some v => letOwnedTupleGo (.Name y py) it v >>= fun _ => assign (.Name y py) cenv v >>= fun _ =>
        (eval elt cenv >>= fun x => call (.builtin "list.append") [acc, x] >>= fun _ => pure ()) >>= fun _ =>
          again (.compLoop (lc2 elt ix iy x y px py scope pos) 1 it acc cenv)) := by rfl
theorem turn_out (it acc : Value) (cenv : Env) :
    compTurn (lc2 elt ix iy x y px py scope pos) 0 it acc cenv = (standAt ix.pos >>= fun _ => pyNext it >>= fun r => match r with
      | none => pure (.done .next)
      | some v => letOwnedTupleGo (.Name x px) it v >>= fun _ => assign (.Name x px) cenv v >>= fun _ =>
        eval iy cenv >>= fun xv => standAt iy.pos >>= fun _ => foldedSetIterable iy cenv xv >>= fun xw => holding [xw] (pyIter xw) >>= fun it2 => runOwn (.compStart (lc2 elt ix iy x y px py scope pos) 1 it2 acc cenv) cenv >>= fun _ =>
          again (.compLoop (lc2 elt ix iy x y px py scope pos) 0 it acc cenv)) := by rfl
theorem start_in {it acc : Value} {cenv : Env}
    (h0 : codeAny (model prog w) A (.compLoop (lc2 elt ix iy x y px py scope pos) 1 it acc cenv) R s)
    (h : wpAny (model prog w) A (pyIter it) (fun it' s' => codeAny (model prog w) A (.compLoop (lc2 elt ix iy x y px py scope pos) 1 it' acc cenv) R s')
      (notedBy (model prog w) A cenv fun x s' => R (.error x) s') s) :
    codeAny (model prog w) A (.compStart (lc2 elt ix iy x y px py scope pos) 1 it acc cenv) R s := by
  refine codeAny_of_tree ?_
  show wpAny _ _ ((compStart (lc2 elt ix iy x y px py scope pos) 1 it acc cenv).onRaise (fun x => do noteFrame x cenv; standAt theWindowsPlace)) _ _ s
  refine wpAny_notedAt ?_
  unfold compStart
  show wpAny _ _ (ask >>= _) _ _ s
  refine wpAny_bind (wpAny_askSetting (wpAny_ite ?_))
  split
  · exact wpAny_pure (And.intro rfl h0)
  · refine wpAny_bind (wpAny_rule ?_)
    show wpAny _ _ (standAt iy.pos >>= _) _ _ s
    exact wpAny_bind (wpAny_standAt (wpAny_bind (wpAny_mono h (fun it' s' h' => wpAny_pure (And.intro rfl h')) fun _ _ x => x)))
theorem loop_in {it acc : Value} {cenv : Env} (I : Nat → Shared → Prop)
    (turn : ∀ n s, I n s → wpAny (model prog w) A (pyNext it) (fun r s₁ => match r with
      | none => R (.ok .next) s₁
      | some v => wpAny (model prog w) A (assign (.Name y py) cenv v) (fun _ s₂ => wpAny (model prog w) A (eval elt cenv) (fun x s₃ =>
          wpAny (model prog w) A (call (.builtin "list.append") [acc, x]) (fun _ s₄ => ∃ m, m < n ∧ I m s₄) (notedBy (model prog w) A cenv fun e s' => R (.error e) s') s₃)
          (notedBy (model prog w) A cenv fun e s' => R (.error e) s') s₂) (notedBy (model prog w) A cenv fun e s' => R (.error e) s') s₁) (notedBy (model prog w) A cenv fun e s' => R (.error e) s') s)
    (n : Nat) (h : I n s) : codeAny (model prog w) A (.compLoop (lc2 elt ix iy x y px py scope pos) 1 it acc cenv) R s := by
  refine codeAny_loop rfl I (fun n s hI => ?_) n h
  show wpAny _ _ ((compTurn (lc2 elt ix iy x y px py scope pos) 1 it acc cenv).onRaise (fun x => do noteFrame x cenv; theTreesLotGoes x)) _ _ s
  refine wpAny_noted ?_
  rw [turn_in]
  refine wpAny_bind (wpAny_standAt (wpAny_bind (wpAny_mono (turn n s hI) (fun r s₁ h₁ => ?_) fun _ _ h' => h')))
  cases r with
  | none => exact wpAny_pure h₁
  | some v =>
    refine wpAny_bind (wpAny_of_eq rfl ?_)
    exact wpAny_bind (wpAny_mono h₁ (fun _ s₂ h₂ => wpAny_bind (wpAny_bind (wpAny_mono h₂ (fun x s₃ h₃ => wpAny_bind (wpAny_mono h₃
      (fun _ s₄ h₄ => wpAny_pure (wpAny_pure ⟨rfl, h₄⟩)) fun _ _ h' => h')) fun _ _ h' => h'))) fun _ _ h' => h')
theorem loop_out {it acc : Value} {cenv : Env} (I : Nat → Shared → Prop)
    (turn : ∀ n s, I n s → wpAny (model prog w) A (pyNext it) (fun r s₁ => match r with
      | none => R (.ok .next) s₁
      | some v => wpAny (model prog w) A (assign (.Name x px) cenv v) (fun _ s₂ => wpAny (model prog w) A (eval iy cenv) (fun xv s₃ =>
          wpAny (model prog w) A (pyIter xv) (fun it2 s₄ => codeAny (model prog w) A (.compStart (lc2 elt ix iy x y px py scope pos) 1 it2 acc cenv) (fun r s' => match r with
            | .ok _ => ∃ m, m < n ∧ I m s'
            | .error e => cameBackBy (model prog w) A cenv (notedBy (model prog w) A cenv fun e s' => R (.error e) s') e s') s₄) (notedBy (model prog w) A cenv fun e s' => R (.error e) s') s₃)
          (notedBy (model prog w) A cenv fun e s' => R (.error e) s') s₂) (notedBy (model prog w) A cenv fun e s' => R (.error e) s') s₁) (notedBy (model prog w) A cenv fun e s' => R (.error e) s') s)
    (n : Nat) (h : I n s) (hs : ∀ v, foldedSetIterable iy cenv v = pure v) : codeAny (model prog w) A (.compLoop (lc2 elt ix iy x y px py scope pos) 0 it acc cenv) R s := by
  refine codeAny_loop rfl I (fun n s hI => ?_) n h
  show wpAny _ _ ((compTurn (lc2 elt ix iy x y px py scope pos) 0 it acc cenv).onRaise (fun x => do noteFrame x cenv; theTreesLotGoes x)) _ _ s
  refine wpAny_noted ?_
  rw [turn_out]
  refine wpAny_bind (wpAny_standAt (wpAny_bind (wpAny_mono (turn n s hI) (fun r s₁ h₁ => ?_) fun _ _ h' => h')))
  cases r with
  | none => exact wpAny_pure h₁
  | some v =>
    refine wpAny_bind (wpAny_of_eq rfl ?_)
    refine wpAny_bind (wpAny_mono h₁ (fun _ s₂ h₂ => wpAny_bind (wpAny_mono h₂ (fun xv s₃ h₃ => wpAny_bind (wpAny_standAt (wpAny_bind (wpAny_of_eq (hs xv) (wpAny_bind (wpAny_holding (wpAny_mono h₃ (fun it2 s₄ h₄ => ?_) fun _ _ h' => h'))))))) fun _ _ h' => h')) fun _ _ h' => h')
    refine wpAny_bind (wpAny_runOwn (h := none) (codeAny_mono h₄ fun r s' h5 => ?_))
    cases r with
    | ok f => exact wpAny_pure ⟨rfl, h5⟩
    | error e => exact h5
inductive LcIn (h₀ : Heap) (L : Addr) (m : PySem.Str → Option Value) (s : Shared) (us ys : List Value) (ps : List (List Nat)) (f : List Nat → List Nat) (I bx C D : Addr) (news : Led) (x : PySem.Str) (a : List Nat) (ta : Tok) (k : Nat) (s' : Shared) : Prop
  | mk (h' : Heap) (tk : Nat) (i : Nat) (zs : List Value) (m₂ : PySem.Str → Option Value) (e1 : s' = { s with heap := h', toks := tk }) (hi : i ≤ us.length) (hk : k = us.length + 1 - i) (hst : h'.IsListIter I bx i ∧ h'.IsList bx us.toArray) (hz : F2 TxtV ((ps.take i).map f) zs) (F' : Fr h₀ L h' m) (N' : News h₀ L h' ((D, lst (ys ++ zs)) :: news)) (hn' : h'.Ns C m₂) (hx' : m₂ x = some (.str (tx a) ta)) : LcIn h₀ L m s us ys ps f I bx C D news x a ta k s'
inductive LcOut (h₀ : Heap) (L : Addr) (m : PySem.Str → Option Value) (s₁ : Shared) (vs : List Value) (ls ps : List (List Nat)) (f : List Nat → List Nat → List Nat) (I ax C D : Addr) (news : Led) (k : Nat) (s' : Shared) : Prop
  | mk (h' : Heap) (tk : Nat) (i : Nat) (ys : List Value) (m' : PySem.Str → Option Value) (e1 : s' = { s₁ with heap := h', toks := tk }) (hi : i ≤ vs.length) (hk : k = vs.length + 1 - i) (hst : h'.IsListIter I ax i ∧ h'.IsList ax vs.toArray) (hz : F2 TxtV ((ls.take i).flatMap fun a => ps.map (f a)) ys) (F' : Fr h₀ L h' m) (N' : News h₀ L h' ((D, lst ys) :: news)) (hn' : h'.Ns C m') : LcOut h₀ L m s₁ vs ls ps f I ax C D news k s'
theorem inner_2 {C D bx : Addr} {kb : Nat} {us ys : List Value} {ps : List (List Nat)} {news : Led} {m₁ : PySem.Str → Option Value} {a : List Nat} {ta : Tok} {f : List Nat → List Nat}
    (hh : A.handled = none) (F : Fr h₀ L s.heap m) (N : News h₀ L s.heap ((D, lst ys) :: news)) (hb' : (bx, W.listOf us.toArray kb) ∈ news) (hps : F2 TxtV ps us) (hu : us.length ≤ 1000) (hy : ys.length ≤ 1000)
    (hC : s.heap.Ns C m₁) (hC₀ : h₀.get? C = none) (hCL : C ≠ L) (hCD : C ≠ D) (offC : ∀ p ∈ news, p.1 ≠ C) (offD : ∀ p ∈ news, p.1 ≠ D) (hx : m₁ x = some (.str (tx a) ta)) (hxy : x ≠ y) (hyl : scope.names.lookup y = some .local) (hkind : scope.kind = .function)
    (elem : ∀ b tb oC m₂ h tk (E' : Value → Shared → Prop) led, b ∈ ps → NsObj oC m₂ → m₂ x = some (.str (tx a) ta) → m₂ y = some (.str (tx b) tb) → Fr h₀ L h m → News h₀ L h led → (C, oC) ∈ led → (∀ p ∈ news, p ∈ led) →
      wpAny (model prog w) A (eval elt (compEnvC scope cl C env)) (EEnd h₀ L s m led (TxtV (f b))) E' { s with heap := h, toks := tk })
    (fin : ∀ h tk m₂ zs, F2 TxtV (ps.map f) zs → Fr h₀ L h m → News h₀ L h ((D, lst (ys ++ zs)) :: news) → h.Ns C m₂ → R (.ok .next) { s with heap := h, toks := tk }) :
    wpAny (model prog w) A (pyIter (.ref bx)) (fun it2 s' => codeAny (model prog w) A (.compStart (lc2 elt ix iy x y px py scope pos) 1 it2 (.ref D) (compEnvC scope cl C env)) R s') E s := by
  have hbm := N _ (List.mem_cons_of_mem _ hb')
  have hl : s.heap.IsList bx us.toArray := isList_of N (List.mem_cons_of_mem _ hb')
  have hlt : bx < s.heap.objs.size := Heap.lt_size hbm.1
  have hne : bx ≠ s.heap.objs.size := Nat.ne_of_lt hlt
  have hIL : L ≠ s.heap.objs.size := Nat.ne_of_lt F.ns.lt
  have hI₀ := next_is_new F
  have hIC : C ≠ s.heap.objs.size := Nat.ne_of_lt hC.lt
  have offI : ∀ p ∈ (D, lst ys) :: news, p.1 ≠ s.heap.objs.size := fun p hp => Nat.ne_of_lt (Heap.lt_size (N p hp).1)
  have hID : D ≠ s.heap.objs.size := offI _ List.mem_cons_self
  refine wpAny_pyIter_list hl ?_
  have W := Walks.list (prog := prog) (w := w) hh s.heap.objs.size bx hne us.toArray
  have st0 : (s.heap.push { cls := .type "list_iterator", data := .fields #[.ref bx, .int 0 0] }).IsListIter s.heap.objs.size bx 0 ∧ (s.heap.push { cls := .type "list_iterator", data := .fields #[.ref bx, .int 0 0] }).IsList bx us.toArray := ⟨⟨_, Heap.get?_push_size _ rfl, rfl, rfl⟩, hl.push _⟩
  have loop : codeAny (model prog w) A (.compLoop (lc2 elt ix iy x y px py scope pos) 1 (.ref s.heap.objs.size) (.ref D) (compEnvC scope cl C env)) R { s with heap := s.heap.push { cls := .type "list_iterator", data := .fields #[.ref bx, .int 0 0] } } := by
    refine loop_in (LcIn h₀ L m s us ys ps f s.heap.objs.size bx C D news x a ta)
      ?_ (us.length + 1) ⟨_, s.toks, 0, [], m₁, rfl, Nat.zero_le _, rfl, st0, by simpa using F2.nil, F.keeps fun _ _ e => Heap.get?_push_of_some _ e, by rw [List.append_nil]; exact N.grown fun _ _ e => Heap.get?_push_of_some _ e, hC.at' fun _ e => Heap.get?_push_of_some _ e, hx⟩
    rintro k s' ⟨h', tk, i, zs, m₂, rfl, hi, rfl, hst, hz, F', N', hn', hx'⟩
    by_cases hlt2 : i < us.length
    · refine W.item i _ _ _ (by simpa using hlt2) hst fun v h₂ tk₂ hPv hst₂ hk₂ => ?_
      have hv : us[i]? = some v := by simpa using hPv
      obtain ⟨c, hc⟩ : ∃ c, ps[i]? = some c := ⟨_, List.getElem?_eq_getElem (hps.length ▸ hlt2)⟩
      obtain ⟨_, e1, tc, rfl⟩ := hps.get i hc
      rw [hv] at e1
      cases e1
      refine wpAny_assign_Name (wpAny_storeName_local (lookup_relabel_local hyl) (hn'.at' fun o e => hk₂ _ o (by simpa using hIC) e) (fun h₃ hn₃ hs₃ => ?_) (by simp [compEnvC, relabel, hkind]))
      have hst₃ := W.frame _ _ h₃ hst₂ fun b hb o e => hs₃.extBut b o (fun q => by
        have q' : b = C := q
        simp only [List.mem_cons, List.not_mem_nil, or_false] at hb
        rcases hb with hb | hb
        · exact hIC (q' ▸ hb)
        · exact offC _ hb' (hb ▸ q')) e
      obtain ⟨oI, heI⟩ : ∃ o, h₃.get? s.heap.objs.size = some o := let ⟨o, e, _⟩ := hst₃.1; ⟨o, e⟩
      obtain ⟨oC, heC, hoC⟩ := ns_obj hn₃
      have F₃ : Fr h₀ L h₃ m := (fr_but F' hk₂ hIL hI₀).change hs₃ hCL hC₀
      have N₂ : News h₀ L h₂ ((D, lst (ys ++ zs)) :: news) := news_but N' hk₂ fun p hp => by
        rcases List.mem_cons.mp hp with rfl | hp
        · exact hID
        · exact offI p (List.mem_cons_of_mem _ hp)
      have N₃ : News h₀ L h₃ ((s.heap.objs.size, oI) :: (C, oC) :: (D, lst (ys ++ zs)) :: news) := fun p hp => by
        rcases List.mem_cons.mp hp with rfl | hp
        · exact ⟨heI, Ne.symm hIL, hI₀⟩
        · rcases List.mem_cons.mp hp with rfl | hp
          · exact ⟨heC, hCL, hC₀⟩
          · have z := N₂ p hp
            refine ⟨hs₃.extBut _ _ ?_ z.1, z.2⟩
            rcases List.mem_cons.mp hp with rfl | hp
            · exact Ne.symm hCD
            · exact offC p hp
      refine wpAny_mono (elem c tc oC _ h₃ _ _ _ (List.mem_of_getElem? hc) hoC (by simp [hxy, hx']) (by simp) F₃ N₃ (by simp) fun p hp => by simp [hp]) (fun z s₄ h₄ => ?_) fun _ _ e => e
      obtain ⟨hz1, h₄, tk₄, rfl, F₄, N₄⟩ := h₄
      have zI := (N₄ (s.heap.objs.size, oI) (by simp)).1
      have zC := (N₄ (C, oC) (by simp)).1
      have zD := (N₄ (D, lst (ys ++ zs)) (by simp)).1
      have N₄' : News h₀ L h₄ news := fun p hp => N₄ p (by simp [hp])
      have hst₄ := list_st (i + 1) h₃ h₄ oI news hst₃ heI zI F₄.keep N₄' (.inr ⟨_, hb', rfl, _, rfl⟩)
      have hzl : zs.length = i := by rw [← hz.length, List.length_map, List.length_take, hps.length]; omega
      refine append_at (hsz := by rw [List.size_toArray, List.length_append]; exact le_sizeLine (by omega)) zD fun h₅ hs₅ hD₅ => ?_
      have etake : ps.take (i + 1) = ps.take i ++ [c] := by rw [List.take_add_one, hc]; rfl
      refine ⟨us.length + 1 - (i + 1), by omega, h₅, tk₄, i + 1, zs ++ [z], _, rfl, hlt2, rfl, W.frame _ _ _ hst₄ fun b hb2 o e => hs₅.extBut b o (fun q => ?_) e, by rw [etake, List.map_append]; exact hz.snoc hz1, F₄.change hs₅ (N₄ (D, lst (ys ++ zs)) (by simp)).2.1 (N₄ (D, lst (ys ++ zs)) (by simp)).2.2, fun p hp => ?_, (hoC.ns zC).sameBut hs₅ hCD, by simp [hxy, hx']⟩
      · have q' : b = D := q
        simp only [List.mem_cons, List.not_mem_nil, or_false] at hb2
        rcases hb2 with hb2 | hb2
        · exact hID (q' ▸ hb2)
        · exact offD _ hb' (hb2 ▸ q')
      · rcases List.mem_cons.mp hp with rfl | hp
        · refine ⟨hD₅.trans (congrArg some ?_), (N₄ (D, lst (ys ++ zs)) (by simp)).2⟩
          rw [lst_snoc, List.append_assoc]
        · exact ⟨hs₅.extBut _ _ (offD p hp) (N₄' p hp).1, (N₄' p hp).2⟩
    · obtain rfl : i = us.length := Nat.le_antisymm hi (Nat.not_lt.mp hlt2)
      refine W.done _ _ _ (by simpa using hst) fun h₂ tk₂ hk₂ => ?_
      rw [← hps.length, List.take_length] at hz
      exact fin h₂ tk₂ m₂ zs hz (fr_but F' hk₂ hIL hI₀) (news_but N' hk₂ fun p hp => by
        rcases List.mem_cons.mp hp with rfl | hp
        · exact hID
        · exact offI p (List.mem_cons_of_mem _ hp)) (hn'.at' fun o e => hk₂ _ o (by simpa using hIC) e)
  exact start_in loop (W.self 0 _ _ _ st0 loop)
theorem off1_of {D : Addr} : ∀ {l : Led}, (∀ p ∈ l, p.1 ≠ D) → Off1 D l
  | [], _ => trivial
  | _ :: _, h => ⟨h _ List.mem_cons_self, off1_of fun p hp => h p (List.mem_cons_of_mem _ hp)⟩
inductive Src2 (prog : Program) (w : World) (A : Around) (h₀ : Heap) (L : Addr) (m : PySem.Str → Option Value) (env : Env) (elt iy : Expr) (x y z : PySem.Str) (scope : Scope) (cl : List (PySem.Str × Addr)) (Q : Flow → Shared → Prop) (xv : Value) (s₁ : Shared) : Prop
  | mk (ax ka vs ls bx kb us ps : _) (f : List Nat → List Nat → List Nat) (news : _) (c1 : xv = .ref ax) (c2 : A.handled = none) (c3 : Fr h₀ L s₁.heap m) (c4 : News h₀ L s₁.heap news) (c5 : (ax, W.listOf vs.toArray ka) ∈ news) (c6 : (bx, W.listOf us.toArray kb) ∈ news) (c7 : F2 TxtV ls vs) (c8 : F2 TxtV ps us) (c9 : vs.length ≤ 20) (c10 : us.length ≤ 20) (c11 : (∀ a ta C oC m₂ h g tk (E' : Value → Shared → Prop) led, NsObj oC m₂ → m₂ x = some (.str (tx a) ta) → Fr h₀ L h m → News h₀ L h led → (C, oC) ∈ led → (∀ p ∈ news, p ∈ led) → wpAny (model prog w) A (eval iy (compEnvC scope cl C env)) (EEnd h₀ L { s₁ with heap := g } m led (fun v => v = .ref bx)) E' { s₁ with heap := h, toks := tk })) (c12 : (∀ a ta b tb C oC m₂ h g tk (E' : Value → Shared → Prop) led, a ∈ ls → b ∈ ps → NsObj oC m₂ → m₂ x = some (.str (tx a) ta) → m₂ y = some (.str (tx b) tb) → Fr h₀ L h m → News h₀ L h led → (C, oC) ∈ led → (∀ p ∈ news, p ∈ led) → wpAny (model prog w) A (eval elt (compEnvC scope cl C env)) (EEnd h₀ L { s₁ with heap := g } m led (TxtV (f a b))) E' { s₁ with heap := h, toks := tk })) (c13 : ∀ ys D h tk, F2 TxtV (ls.flatMap fun a => ps.map (f a)) ys → Fr h₀ L h (fun v => if v = z then some (.ref D) else m v) → News h₀ L h ((D, lst ys) :: news) → Off1 D news → Q .next { s₁ with heap := h, toks := tk }) : Src2 prog w A h₀ L m env elt iy x y z scope cl Q xv s₁
theorem flat_len {ls ps : List (List Nat)} {f : List Nat → List Nat → List Nat} : (ls.flatMap fun a => ps.map (f a)).length = ls.length * ps.length := by
  induction ls with
  | nil => simp
  | cons a r ih => rw [List.flatMap_cons, List.length_append, ih, List.length_map, List.length_cons, Nat.succ_mul, Nat.add_comm]
theorem Assign_lc2 {z : PySem.Str} {pz spos : Pos} {Q : Flow → Shared → Prop} (F₀ : Fr h₀ L s.heap m) (hLe : env.locals = L)
    (hsw : swapsWith (lc2 elt ix iy x y px py scope pos) (some (.Name z pz)) spos.line env = pure true)
    (hclos : closureFor scope env = pure cl) (hcell : ∀ z ∈ scope.names, z.2 ≠ .cell) (hkind : scope.kind = .function)
    (hnames : ∀ z ∈ scope.names, z.2 = .local → scope.names.lookup z.1 = some .local) (hx : scope.names.lookup x = some .local) (hyl : scope.names.lookup y = some .local) (hxy : x ≠ y)
    (hz : env.kindOf z = some .local) (hp : (env.scope.kind == .class || (env.scope.kind == .module && env.locals != env.globals)) = false)
    (h : wpAny (model prog w) A (eval ix env) (Src2 prog w A h₀ L m env elt iy x y z scope cl Q) E s)
    (hs : ∀ x, foldedSetIterable ix env x = pure x := by intro _; rfl) (hs2 : ∀ C v, foldedSetIterable iy (compEnvC scope cl C env) v = pure v := by intro _ _; rfl) :
    wpAny (model prog w) A (exec (.Assign [.Name z pz] (lc2 elt ix iy x y px py scope pos) spos) env) Q E s := by
  subst hLe
  rw [exec_Assign_Name_used _ _ _ _ hsw]
  refine wpAny_bind (wpAny_standAt (wpAny_bind ?_))
  show wpAny _ A (do let _ ← comprehension (lc2 elt ix iy x y px py scope pos) scope env _ (newList []) false (eval ix env) (some (assign (.Name z pz) env))) _ _ s
  refine wpAny_bind (wpAny_mono (wpAny_comprehension_free (use := some (assign (.Name z pz) env)) (Q := fun _ s' => Q .next s') rfl hs hclos hkind hnames
    (wpAny_mono h (fun xv s₁ h₁ => ?_) fun _ _ e => e)) (fun _ s' hq => wpAny_pure (wpAny_pure hq)) fun _ _ e => e)
  obtain ⟨ax, ka, vs, ls, bx, kb, us, ps, f, news, rfl, hh, F, N, ha, hb, hls, hps, hvl, hul, iyp, elem, fin⟩ := h₁
  have hl : s₁.heap.IsList ax vs.toArray := isList_of N ha
  have hax : ax < s₁.heap.objs.size := Heap.lt_size (N _ ha).1
  refine wpAny_pyIter_list hl ?_
  generalize hI : s₁.heap.objs.size = I
  have hIL : env.locals ≠ I := hI ▸ Nat.ne_of_lt F.ns.lt
  have hI₀ : h₀.get? I = none := hI ▸ next_is_new F
  have offI : ∀ p ∈ news, p.1 ≠ I := fun p hp => hI ▸ Nat.ne_of_lt (Heap.lt_size (N p hp).1)
  have hne : ax ≠ I := offI _ ha
  have F1 : Fr h₀ env.locals (s₁.heap.push { cls := .type "list_iterator", data := .fields #[.ref ax, .int 0 0] }) m := F.keeps fun _ _ e => Heap.get?_push_of_some _ e
  have N1 : News h₀ env.locals (s₁.heap.push { cls := .type "list_iterator", data := .fields #[.ref ax, .int 0 0] }) news := N.grown fun _ _ e => Heap.get?_push_of_some _ e
  have st1 : (s₁.heap.push { cls := .type "list_iterator", data := .fields #[.ref ax, .int 0 0] }).IsListIter I ax 0 ∧ (s₁.heap.push { cls := .type "list_iterator", data := .fields #[.ref ax, .int 0 0] }).IsList ax vs.toArray := ⟨⟨_, hI ▸ Heap.get?_push_size _ rfl, rfl, rfl⟩, hl.push _⟩
  have hIlt : I < (s₁.heap.push { cls := .type "list_iterator", data := .fields #[.ref ax, .int 0 0] }).objs.size := by rw [Heap.size_push, hI]; exact Nat.lt_succ_self _
  generalize s₁.heap.push { cls := .type "list_iterator", data := .fields #[.ref ax, .int 0 0] } = H1 at F1 N1 st1 hIlt ⊢
  have W := Walks.list (prog := prog) (w := w) hh I ax hne vs.toArray
  refine wpAny_newObj_type (wpAny_newFunctionEnv hcell (by intro y hy; simp at hy) (fun h₁ hns₁ hsb₁ => ?_) hkind)
  dsimp only at hns₁ hsb₁ ⊢
  generalize hH2 : H1.push { cls := .type "list", dict := none, data := .seq ([] : List Value).toArray } = H2 at hns₁ hsb₁ ⊢
  generalize hD : H1.objs.size = D
  have hC : H2.objs.size = D + 1 := by rw [← hH2, Heap.size_push, hD]
  generalize hCe : H2.objs.size = C at *
  have hDC : D ≠ C := by rw [hC]; exact Nat.ne_of_lt (Nat.lt_succ_self _)
  have below : ∀ b, b < D → b ≠ C ∧ b ≠ D := fun b hb => ⟨by rw [hC]; exact Nat.ne_of_lt (Nat.lt_succ_of_lt hb), Nat.ne_of_lt hb⟩
  have old : ∀ b o, H1.get? b = some o → h₁.get? b = some o := fun b o e => hsb₁.extBut b o (below b (hD ▸ Heap.lt_size e)).1 (Heap.get?_push_of_some _ (hH2 ▸ Heap.get?_push_of_some _ e))
  have hacc : h₁.get? D = some (lst []) := hsb₁.extBut _ _ hDC (Heap.get?_push_of_some _ (hH2 ▸ hD ▸ Heap.get?_push_size _ rfl))
  have fresh₀ : ∀ a, D ≤ a → h₀.get? a = none := fun a ha => by
    cases e : h₀.get? a with
    | none => rfl
    | some o' => exact absurd (hD ▸ Heap.lt_size (F1.keep a o' e)) (Nat.not_lt.mpr ha)
  have hD₀ := fresh₀ _ (Nat.le_refl _)
  have hC₀ : h₀.get? C = none := fresh₀ _ (by rw [hC]; exact Nat.le_succ _)
  have hDL : D ≠ env.locals := Ne.symm (below _ (hD ▸ F1.ns.lt)).2
  have hCL : C ≠ env.locals := Ne.symm (below _ (hD ▸ F1.ns.lt)).1
  have hCI : I ≠ C := (below I (hD ▸ hIlt)).1
  have hDI : I ≠ D := (below I (hD ▸ hIlt)).2
  have offC : ∀ p ∈ news, p.1 ≠ C := fun p hp => (below _ (hD ▸ Heap.lt_size (N1 p hp).1)).1
  have offD : ∀ p ∈ news, p.1 ≠ D := fun p hp => (below _ (hD ▸ Heap.lt_size (N1 p hp).1)).2
  have st2 := W.frame _ _ h₁ st1 fun b _ o e => old b o e
  have loop : ∀ s₃ : Shared, (∃ tk, s₃ = { s₁ with heap := h₁, toks := tk }) →
      codeAny (model prog w) A (.compLoop (lc2 elt ix iy x y px py scope pos) 0 (.ref I) (.ref D) (compEnvC scope cl C env)) (compPost (model prog w) A E (some (assign (.Name z pz) env)) (fun _ s' => Q .next s') (.ref D) C) s₃ := by
    rintro s₃ ⟨tk0, rfl⟩
    refine loop_out (LcOut h₀ env.locals m s₁ vs ls ps f I ax C D news)
      ?_ (vs.length + 1) ⟨h₁, tk0, 0, [], _, rfl, Nat.zero_le _, rfl, st2, by simpa using F2.nil, F1.keeps old, fun p hp => ?_, hns₁⟩ (hs2 C)
    · rintro k s' ⟨h', tk, i, ys, m', rfl, hi, rfl, hst, hz', F', N', hn'⟩
      by_cases hlt2 : i < vs.length
      · refine W.item i _ _ _ (by simpa using hlt2) hst fun v h₂ tk₂ hPv hst₂ hk₂ => ?_
        have hv : vs[i]? = some v := by simpa using hPv
        obtain ⟨a, hc⟩ : ∃ a, ls[i]? = some a := ⟨_, List.getElem?_eq_getElem (hls.length ▸ hlt2)⟩
        obtain ⟨_, e1, ta, rfl⟩ := hls.get i hc
        rw [hv] at e1
        cases e1
        refine wpAny_assign_Name (wpAny_storeName_local (lookup_relabel_local hx) (hn'.at' fun o e => hk₂ _ o (by simpa using Ne.symm hCI) e) (fun h₃ hn₃ hs₃ => ?_) (by simp [compEnvC, relabel, hkind]))
        have hst₃ := W.frame _ _ h₃ hst₂ fun b hb2 o e => hs₃.extBut b o (fun q => by
          have q' : b = C := q
          simp only [List.mem_cons, List.not_mem_nil, or_false] at hb2
          rcases hb2 with hb2 | hb2
          · exact hCI (hb2 ▸ q')
          · exact offC _ ha (hb2 ▸ q')) e
        obtain ⟨oI, heI⟩ : ∃ o, h₃.get? I = some o := let ⟨o, e, _⟩ := hst₃.1; ⟨o, e⟩
        obtain ⟨oC, heC, hoC⟩ := ns_obj hn₃
        have F₃ : Fr h₀ env.locals h₃ m := (fr_but F' hk₂ hIL hI₀).change hs₃ hCL hC₀
        have N₂ : News h₀ env.locals h₂ ((D, lst ys) :: news) := news_but N' hk₂ fun p hp => by
          rcases List.mem_cons.mp hp with rfl | hp
          · exact Ne.symm hDI
          · exact offI p hp
        have N₃ : News h₀ env.locals h₃ ((C, oC) :: (I, oI) :: (D, lst ys) :: news) := fun p hp => by
          rcases List.mem_cons.mp hp with rfl | hp
          · exact ⟨heC, hCL, hC₀⟩
          · rcases List.mem_cons.mp hp with rfl | hp
            · exact ⟨heI, Ne.symm hIL, hI₀⟩
            · have z := N₂ p hp
              refine ⟨hs₃.extBut _ _ ?_ z.1, z.2⟩
              rcases List.mem_cons.mp hp with rfl | hp
              · exact hDC
              · exact offC p hp
        refine wpAny_mono (iyp a ta C oC _ h₃ h₃ _ _ _ hoC (by simp) F₃ N₃ (by simp) fun p hp => by simp [hp]) (fun yv s₄ h₄ => ?_) fun _ _ e => e
        obtain ⟨rfl, h₄, tk₄, rfl, F₄, N₄⟩ := h₄
        have zC := (N₄ (C, oC) (by simp)).1
        have hn₄ := hoC.ns zC
        have hyl2 : ys.length ≤ 400 := by
          rw [← hz'.length, flat_len, hps.length]
          have h1 : (ls.take i).length ≤ 20 := by rw [List.length_take, hls.length]; omega
          exact Nat.mul_le_mul h1 hul
        have N5 : News h₀ env.locals h₄ ((D, lst ys) :: (I, oI) :: news) := fun p hp => N₄ p (by
          simp only [List.mem_cons] at hp ⊢
          rcases hp with hp | hp | hp
          · exact .inr (.inr (.inl hp))
          · exact .inr (.inl hp)
          · exact .inr (.inr (.inr hp)))
        refine inner_2 (news := (I, oI) :: news) (f := f a) (ys := ys) (D := D) (C := C) hh F₄ N5 (List.mem_cons_of_mem _ hb) hps (by omega) (by omega) hn₄ hC₀ hCL (Ne.symm hDC) (List.forall_mem_cons.mpr ⟨hCI, offC⟩) (List.forall_mem_cons.mpr ⟨hDI, offD⟩) (if_pos rfl) hxy hyl hkind ?_ ?_
        · exact fun b tb oC m₂ h tk E' led hb1 ho h1 h2 F N hC hl => elem a ta b tb C oC m₂ h h₄ tk E' led (List.mem_of_getElem? hc) hb1 ho h1 h2 F N hC fun p hp => hl p (List.mem_cons_of_mem _ hp)
        · intro h₅ tk₅ m₅ zs hz5 F₅ N₅ hn₅
          have N5' : News h₀ env.locals h₅ news := fun p hp => N₅ p (by simp [hp])
          refine ⟨vs.length + 1 - (i + 1), by omega, h₅, tk₅, i + 1, ys ++ zs, m₅, rfl, hlt2, rfl, list_st (i + 1) h₃ h₅ oI news hst₃ heI (N₅ (I, oI) (by simp)).1 F₅.keep N5' (.inr ⟨_, ha, rfl, _, rfl⟩), ?_, F₅, fun p hp => N₅ p (by
            simp only [List.mem_cons] at hp ⊢
            rcases hp with hp | hp <;> simp [hp]), hn₅⟩
          have etake : ls.take (i + 1) = ls.take i ++ [a] := by rw [List.take_add_one, hc]; rfl
          rw [etake, List.flatMap_append]
          exact hz'.append (by simpa using hz5)
      · obtain rfl : i = vs.length := Nat.le_antisymm hi (Nat.not_lt.mp hlt2)
        refine W.done _ _ _ (by simpa using hst) fun h₂ tk₂ hk₂ => ?_
        rw [← hls.length, List.take_length] at hz'
        have F₂ : Fr h₀ env.locals h₂ m := fr_but F' hk₂ hIL hI₀
        have N₂ : News h₀ env.locals h₂ ((D, lst ys) :: news) := news_but N' hk₂ fun p hp => by
          rcases List.mem_cons.mp hp with rfl | hp
          · exact Ne.symm hDI
          · exact offI p hp
        have hn₂ := hn'.at' fun o e => hk₂ _ o (by simpa using Ne.symm hCI) e
        show wpAny _ A (assign (.Name z pz) env (.ref D)) _ _ _
        refine wpAny_assign_Name (wpAny_storeName_local hz F₂.ns (fun h₃ hn₃ hs₃ => ?_) hp)
        have hL₀ : h₀.get? env.locals = none := Heap.get?_none_of_le F₂.above
        have F₃ : Fr h₀ env.locals h₃ (fun v => if v = z then some (.ref D) else m v) := ⟨hn₃, fun b o e => hs₃.extBut b o (fun q => by rw [q, hL₀] at e; cases e) (F₂.keep b o e), F₂.above⟩
        refine ⟨_, hn₂.sameBut hs₃ hCL, fun h'' hs'' => fin ys D h'' _ hz' (F₃.change hs'' hCL hC₀) (fun p hp => ?_) (off1_of offD)⟩
        have q : h₃.get? p.1 = some p.2 := hs₃.extBut _ _ (N₂ p hp).2.1 (N₂ p hp).1
        refine ⟨hs''.extBut _ _ ?_ q, (N₂ p hp).2⟩
        rcases List.mem_cons.mp hp with rfl | hp
        · exact hDC
        · exact offC p hp
    · rcases List.mem_cons.mp hp with rfl | hp
      · exact ⟨hacc, hDL, hD₀⟩
      · exact ⟨old _ _ (N1 p hp).1, (N1 p hp).2⟩
  exact codeAny_compStart_list (loop _ ⟨_, rfl⟩) (W.self 0 _ _ _ st2 (loop _ ⟨_, rfl⟩))
end
end S_Cz
section S_FPa
noncomputable def sg (k : Nat) : Nat := signs17.getD k 0
theorem sg_item : ∀ k, k < 16 → Txt.item (PySem.Str.ofString "ab*?[]!-^\\&~| $+") ((k : Nat) : Int) = tx [sg k] ∧ sg k ∈ signs17 ∧ sg k ≠ 46 := by decide +kernel
theorem sg_inj : ∀ k, k < 16 → ∀ j, j < 16 → sg k = sg j → k = j := by decide +kernel
inductive PairP (news : Led) (r : Value) (n' : Led) : Prop
  | mk (x y : Nat) (l : Addr) (vs : List Value) (cap : Nat) (c1 : r = .ref l) (c2 : F2 TxtV [[x], [y]] vs) (c3 : n' = (l, W.listOf vs.toArray cap) :: news) (c4 : (∀ p ∈ news, p.1 ≠ l)) (c5 : (x ∈ signs17 ∧ x ≠ 46)) (c6 : (y ∈ signs17 ∧ y ≠ 46)) (c7 : x ≠ y) : PairP news r n'
theorem pair (w : World) (n : Nat) (hn : n < 100000000) (t0 : Tok) (news : Led) :
    Fn w 700 102 [.int (n : Nat) t0] news (PairP news) := by
  have nl : NoLia := .mk
  w_on
  refine fn_in ?_
  intro p loose mean mg mb dp un gd cn cs a ccd cl outer A₀ base h₀ L m shQ sgQ sdQ stQ soQ Q E B F X N T C1 C2 hk hd hu hret
  with_unfolding_all refine' code_my (binds := [(PySem.Str.ofString "number", .int (n : Nat) t0)]) B F X N T C1 C2 ?kA ?kF ?kK ?ko ?est ?kcd ?kroom ?kbind ?kloc ?_ ?kco ?kgen ?kkind ?kcell
  (case kA => exact rfl)
  (case kF => exact rfl)
  (case kK => exact hk)
  (case ko => k_is)
  (case est => exact rfl)
  (case kcd => k_is)
  (case kroom => (show dp < 1000; omega))
  (case kbind => exact BindsTo.of_eq rfl)
  (case kloc => exact locs rfl)
  (case kco => exact rfl)
  (case kgen => exact rfl)
  (case kkind => exact rfl)
  (case kcell => decide)
  intro g' L' h' tk' FG' F' N' B' X' T' C1' C2' lt'
  clear F N FG'
  (try dsimp only)
  (try k_fold)
  k_steps
  rename_i lp hp F1 N1 l1
  have e1 : ((n : Nat) : Int).fmod 16 = ((n % 16 : Nat) : Int) := by rw [Int.fmod_eq_emod_of_nonneg _ (by decide)]; omega
  have e2 : ((n : Nat) : Int).fdiv 16 = ((n / 16 : Nat) : Int) := by rw [Int.fdiv_eq_ediv_of_nonneg _ (by decide)]; omega
  have e3 : (((n / 16 : Nat) : Int)).fmod 15 = ((n / 16 % 15 : Nat) : Int) := by rw [Int.fmod_eq_emod_of_nonneg _ (by decide)]; omega
  have e4 : (((n % 16 : Nat) : Int) + 1 + ((n / 16 % 15 : Nat) : Int)).fmod 16 = (((n % 16 + 1 + n / 16 % 15) % 16 : Nat) : Int) := by rw [Int.fmod_eq_emod_of_nonneg _ (by decide)]; omega
  obtain ⟨a1, a2, a3⟩ := sg_item (n % 16) (by omega)
  obtain ⟨b1, b2, b3⟩ := sg_item ((n % 16 + 1 + n / 16 % 15) % 16) (by omega)
  have hne : sg (n % 16) ≠ sg ((n % 16 + 1 + n / 16 % 15) % 16) := fun e => by
    have := sg_inj _ (by omega) _ (by omega) e
    omega
  rw [e2, e3, e1, e4, a1, b1] at N1
  refine Stop.go (sorted_list (ls := [[sg (n % 16)], [sg ((n % 16 + 1 + n / 16 % 15) % 16)]]) F1 N1 List.mem_cons_self (.cons ⟨_, rfl⟩ (.cons ⟨_, rfl⟩ .nil)) (Nat.le_of_ble_eq_true rfl) ?_)
  generalize sg (n % 16) = u at *
  generalize sg ((n % 16 + 1 + n / 16 % 15) % 16) = v at *
  intro D h2 vs2 ls2 e F2' N2' l2 hv2 hpm hs
  have hl2 : ls2 = [[u], [v]] ∨ ls2 = [[v], [u]] := by
    have hm : ∀ z, z ∈ ls2 ↔ z ∈ [[u], [v]] := fun z => hpm.mem_iff
    have hnd : ls2.Nodup := hpm.nodup_iff.mpr (by simp [hne])
    match ls2, hpm.length_eq, hm, hnd with
    | [p, q], _, hm, hnd =>
      have hp := (hm p).mp (by simp)
      have hq := (hm q).mp (by simp)
      simp only [List.mem_cons, List.not_mem_nil, or_false] at hp hq
      rcases hp with rfl | rfl <;> rcases hq with rfl | rfl <;> simp at hnd ⊢
  k_steps
  rename News _ _ _ _ => NZ
  have off : ∀ p ∈ news, p.1 ≠ D := fun p hp => Nat.ne_of_lt (l2 p (List.mem_cons_of_mem _ hp))
  rcases hl2 with rfl | rfl
  · exact hret _ _ _ _ (by assumption) (fun p hp => NZ p (by simp only [List.mem_cons] at hp ⊢; exact hp.imp_right .inr)) ⟨u, v, D, vs2, e, rfl, hv2, rfl, off, ⟨a2, a3⟩, ⟨b2, b3⟩, hne⟩
  · exact hret _ _ _ _ (by assumption) (fun p hp => NZ p (by simp only [List.mem_cons] at hp ⊢; exact hp.imp_right .inr)) ⟨v, u, D, vs2, e, rfl, hv2, rfl, off, ⟨b2, b3⟩, ⟨a2, a3⟩, hne.symm⟩
end S_FPa
section S_FWo
local macro_rules | `(tactic| walk_at "CompSrc") => `(tactic| (refine Stop.mk ?_))
local macro_rules | `(tactic| walk_at "in Wo") => `(tactic| skip)
example : True := by
  k_with "call builtin:list.append" => (walk_at "in Wo"; ((try dsimp only [List.nil_append, List.cons_append]); refine' append_K ?k1 ?k2 ?k3 ?_ ?z; (case k1 => k_asm); (case k2 => k_asm); (case k3 => k_upd); (case z => exact le_sizeLine (by rw [List.size_toArray]; omega)); (walk_at "i3"; (try k_sweep))))
  trivial
noncomputable def rowL (x y : Nat) : Nat → List (List Nat)
  | 0 => [[]]
  | i + 1 => (rowL x y i).flatMap fun a => [[x], [y]].map (a ++ ·)
noncomputable def wordsL (x y : Nat) : Nat → List (List Nat)
  | 0 => []
  | i + 1 => wordsL x y i ++ rowL x y (i + 1)
theorem rowL_mem {x y : Nat} : ∀ (i : Nat) (a : List Nat), a ∈ rowL x y i → a.length = i ∧ Lt x y a
  | 0, a, h => by
    simp only [rowL, List.mem_singleton] at h
    subst h
    exact ⟨rfl, fun _ h => nomatch h⟩
  | i + 1, a, h => by
    simp only [rowL, List.mem_flatMap, List.mem_map, List.mem_cons, List.not_mem_nil, or_false] at h
    obtain ⟨p, h1, q, h2, rfl⟩ := h
    obtain ⟨h3, h4⟩ := rowL_mem i p h1
    rcases h2 with rfl | rfl
    · exact ⟨by simp [h3], fun c hc => (List.mem_append.mp hc).elim (h4 c) fun h => .inl (by simpa using h)⟩
    · exact ⟨by simp [h3], fun c hc => (List.mem_append.mp hc).elim (h4 c) fun h => .inr (by simpa using h)⟩
theorem rowL_len {x y : Nat} : ∀ (i : Nat), (rowL x y i).length = 2 ^ i
  | 0 => rfl
  | i + 1 => by
    show ((rowL x y i).flatMap fun a => [[x], [y]].map ((fun a b => a ++ b) a)).length = _
    rw [flat_len (f := fun a b => a ++ b), rowL_len i]; rfl
theorem wordsL_len {x y : Nat} : ∀ (i : Nat), i ≤ 3 → (wordsL x y i).length ≤ 14
  | 0, _ => Nat.zero_le _
  | 1, _ => by simp [wordsL, rowL_len]
  | 2, _ => by simp [wordsL, rowL_len]
  | 3, _ => by simp [wordsL, rowL_len]
theorem F2.of_get {α β : Type} {R : α → β → Prop} : ∀ {l : List α} {m : List β}, l.length = m.length → (∀ (j : Nat) b, m[j]? = some b → ∃ a, l[j]? = some a ∧ R a b) → F2 R l m
  | [], [], _, _ => .nil
  | [], _ :: _, h, _ => by simp at h
  | _ :: _, [], h, _ => by simp at h
  | a :: l, b :: m, h, k => by
    obtain ⟨a', h1, h2⟩ := k 0 b rfl
    cases h1
    exact .cons h2 (F2.of_get (by simpa using h) fun j b hb => k (j + 1) b (by simpa using hb))
section
variable {prog : Program} {w : World} {A : Around} {E : Value → Shared → Prop} {s : Shared} {h₀ : Heap} {L : Addr} {m : PySem.Str → Option Value} {news : Led} {Q : Value → Shared → Prop}
theorem list_signs {a : List Nat} {t : Tok} (hh : A.handled = none) (F : Fr h₀ L s.heap m) (N : News h₀ L s.heap news) (hl : a.length ≤ 1000)
    (h : ∀ D c vs h' tk, Fr h₀ L h' m → News h₀ L h' ((D, W.listOf vs.toArray c) :: news) → (∀ q ∈ news, q.1 < D) → F2 TxtV (a.map fun c => [c]) vs → Q (.ref D) { s with heap := h', toks := tk }) : wpAny (model prog w) A (call (.type "list") [.str (tx a) t]) Q E s := by
  refine call_list_str hh (tx a) t (fun h' tk acc' c' hk hD hacc => ?_) (hn := by simp [tx]; exact le_sizeLine (by omega))
  refine h _ c' acc'.toList h' tk (F.keeps hk) (fun p hp => ?_) (fun q hq => Heap.lt_size (N q hq).1) (F2.of_get ?_ fun j b hb => ?_)
  · rcases List.mem_cons.mp hp with rfl | hp
    · refine ⟨by simpa using hD, (Nat.ne_of_lt F.ns.lt).symm, ?_⟩
      cases e : h₀.get? s.heap.objs.size with
      | none => rfl
      | some o => exact absurd (Heap.lt_size (F.keep _ _ e)) (Nat.lt_irrefl _)
    · exact ⟨hk _ _ (N p hp).1, (N p hp).2⟩
  · have := hacc.1
    simpa [tx] using this.symm
  · obtain ⟨c, u, hc, rfl⟩ := hacc.2 j b (by simpa using hb)
    have hc' : a[j]? = some c := by simpa [tx] using hc
    exact ⟨[c], by rw [List.getElem?_map, hc']; rfl, u, rfl⟩
end
theorem join_enc (a : List Nat) : joinWith [46] (a.map fun c => [c]) = enc a := by
  cases a with
  | nil => rfl
  | cons c r =>
    rw [List.map_cons, joinWith_cons]
    simp [enc, List.flatMap_def, Function.comp_def]
inductive J1 (x y : Nat) (L' : Addr) (oW oP : Obj) (news : Led) (m0 : PySem.Str → Option Value) (i : Nat) (m' : PySem.Str → Option Value) (n' : Led) : Prop
  | mk (c1 : KeptK [PySem.Str.ofString "size", PySem.Str.ofString "row", PySem.Str.ofString "words"] m0 m') (rl wl rvs wvs rc wc : _) (c2 : m' (PySem.Str.ofString "row") = some (.ref rl)) (c3 : m' (PySem.Str.ofString "words") = some (.ref wl)) (c4 : F2 TxtV (rowL x y i) rvs) (c5 : F2 TxtV ((wordsL x y i).map enc) wvs) (c6 : @LT.lt Nat _ (L' + 1 + 1) wl) (c7 : (∀ p ∈ news, p.1 ≠ wl)) (c8 : n' = (rl, W.listOf rvs.toArray rc) :: (wl, W.listOf wvs.toArray wc) :: (L' + 1 + 1, oW) :: (L' + 1, oP) :: news) : J1 x y L' oW oP news m0 i m' n'
inductive J2 (x y : Nat) (L' dl : Addr) (oP : Obj) (news : Led) (m0 : PySem.Str → Option Value) (i : Nat) (m' : PySem.Str → Option Value) (n' : Led) : Prop
  | mk (c1 : KeptK [PySem.Str.ofString "number", PySem.Str.ofString "words"] m0 m') (code rest : List (List Nat)) (cvs wvs : List Value) (cc wc : Nat) (wl : Addr) (oW : Obj) (cv : Option Value) (c2 : m' (PySem.Str.ofString "words") = some (.ref wl)) (c3 : F2 TxtV (code.map enc) cvs) (c4 : F2 TxtV (rest.map enc) wvs) (c5 : code.length = i) (c6 : rest.length = 14 - i) (c7 : (code ++ rest).Nodup) (c8 : (∀ a ∈ code ++ rest, a ≠ [] ∧ a.length ≤ 3 ∧ Lt x y a)) (c9 : oW.data = .cell cv) (c10 : @Ne Nat dl wl) (c11 : @Ne Nat wl (L' + 1 + 1)) (c12 : (∀ p ∈ news, p.1 ≠ wl)) (c13 : n' = (dl, W.listOf cvs.toArray cc) :: (wl, W.listOf wvs.toArray wc) :: (L' + 1 + 1, oW) :: (L' + 1, oP) :: news) : J2 x y L' dl oP news m0 i m' n'
theorem words3 {x y : Nat} (hxy : x ≠ y) : (wordsL x y 3).length = 14 ∧ (wordsL x y 3).Nodup ∧ ∀ a ∈ wordsL x y 3, a ≠ [] ∧ a.length ≤ 3 ∧ Lt x y a := by
  refine ⟨by simp [wordsL, rowL_len], by simp [wordsL, rowL, hxy, hxy.symm], fun a ha => ?_⟩
  simp only [wordsL, List.nil_append, List.mem_append] at ha
  rcases ha with (ha | ha) | ha
  all_goals
    obtain ⟨h1, h2⟩ := rowL_mem _ a ha
    exact ⟨fun e => (by subst e; simp at h1), by omega, h2⟩
theorem drop_one {code rest : List (List Nat)} {a : List Nat} (hn : (code ++ rest).Nodup) (ha : a ∈ rest) : (rest.filter fun z => !decide (z = a)).length = rest.length - 1 ∧ ((code ++ [a]) ++ rest.filter fun z => !decide (z = a)).Nodup := by
  obtain ⟨h1, h2, h3⟩ := List.nodup_append.mp hn
  have e : (rest.filter fun z => !decide (z = a)) = rest.erase a := by
    rw [h2.erase_eq_filter]
    apply List.filter_congr
    intro z _
    by_cases q : z = a <;> simp [q]
  refine ⟨by rw [e, List.length_erase_of_mem ha], List.nodup_append.mpr ⟨List.nodup_append.mpr ⟨h1, by simp, fun x hx y hy => ?_⟩, h2.filter _, fun x hx y hy => ?_⟩⟩
  · rw [List.mem_singleton.mp hy]
    exact h3 x hx a ha
  · have hy' := List.mem_filter.mp hy
    rcases List.mem_append.mp hx with hx | hx
    · exact h3 x hx y hy'.1
    · rw [List.mem_singleton.mp hx]
      have := hy'.2
      simp at this
      exact fun e => this e.symm
theorem filter_enc {rest : List (List Nat)} {a : List Nat} : ((rest.map enc).filter fun c => !decide (c = enc a)) = (rest.filter fun z => !decide (z = a)).map enc := by
  rw [List.filter_map]
  congr 1
  apply List.filter_congr
  intro z _
  by_cases q : z = a
  · simp [q]
  · have : ¬ enc z = enc a := fun e => q (enc_inj _ _ e)
    simp [q, this]
inductive WordsP (x y : Nat) (news : Led) (r : Value) (n' : Led) : Prop
  | mk (l : Addr) (a1 a2 a3 : List Nat) (vs : List Value) (cap : Nat) (c1 : r = .ref l) (c2 : F2 TxtV [enc a1, enc a2, enc a3] vs) (c3 : n' = (l, W.listOf vs.toArray cap) :: news) (c4 : (∀ p ∈ news, p.1 ≠ l)) (c5 : CodeXY x y [a1, a2, a3]) (c6 : [a1, a2, a3].Nodup) : WordsP x y news r n'
namespace Kwords
abbrev Par : Type := (World) × (Nat) × (Nat) × (Addr) × (Addr) × (List Value) × (Nat) × (Nat) × (Nat) × (Nat) × (Nat) × (Tok) × (Tok) × (Tok) × (Led) × (Program) × (List PySem.Str) × (ExcName → Option Value) × (PySem.Str → Option Value) × (PySem.Str → Option Value) × (Nat) × (Nat) × (Option (List Code)) × (PySem.Str) × (Scope) × (Addr) × (Value) × (List (PySem.Str × Addr)) × (List Env) × (Around) × (Heap) × (Heap) × (Addr) × (PySem.Str → Option Value) × (Shared) × (Value → Shared → Prop) × (Value → Shared → Prop)
theorem ne : Nonempty Par := ⟨by refine ⟨?_, ?_, ?_, ?_, ?_, ?_, ?_, ?_, ?_, ?_, ?_, ?_, ?_, ?_, ?_, ?_, ?_, ?_, ?_, ?_, ?_, ?_, ?_, ?_, ?_, ?_, ?_, ?_, ?_, ?_, ?_, ?_, ?_, ?_, ?_, ?_, ?_⟩ <;> first | exact W0 | exact default | exact {} | exact FD0⟩
noncomputable def Goal : Par → Prop := fun e0 => (fun (w : World) (x : Nat) (y : Nat) (lp : Addr) (ln : Addr) (pvs : List Value) (cp : Nat) (cnn : Nat) (n1 : Nat) (n2 : Nat) (n3 : Nat) (t1 : Tok) (t2 : Tok) (t3 : Tok) (news : Led) (p : Program) (loose : List PySem.Str) (mean : ExcName → Option Value) (mg : PySem.Str → Option Value) (mb : PySem.Str → Option Value) (dp : Nat) (un : Nat) (gd : Option (List Code)) (cn : PySem.Str) (cs : Scope) (a : Addr) (ccd : Value) (cl : List (PySem.Str × Addr)) (outer : List Env) (A₀ : Around) (base : Heap) (h₀ : Heap) (L : Addr) (m : PySem.Str → Option Value) (s : Shared) (Q : Value → Shared → Prop) (E : Value → Shared → Prop) => (hx : x ∈ signs17 ∧ x ≠ 46) → (hy : y ∈ signs17 ∧ y ≠ 46) → (hxy : x ≠ y) → (hp : (lp, W.listOf pvs.toArray cp) ∈ news) → (hpv : F2 TxtV [[x], [y]] pvs) → (hn : (ln, W.listOf #[.int (n1 : Nat) t1, .int (n2 : Nat) t2, .int (n3 : Nat) t3] cnn) ∈ news) → (h1 : n1 < 100000000) → (h2 : n2 < 100000000) → (h3 : n3 < 100000000) → FnSG w 700 107 [.ref lp, .ref ln] news (WordsP x y news) p loose mean mg mb dp un gd cn cs a ccd cl outer A₀ base h₀ L m s Q E) e0.1 e0.2.1 e0.2.2.1 e0.2.2.2.1 e0.2.2.2.2.1 e0.2.2.2.2.2.1 e0.2.2.2.2.2.2.1 e0.2.2.2.2.2.2.2.1 e0.2.2.2.2.2.2.2.2.1 e0.2.2.2.2.2.2.2.2.2.1 e0.2.2.2.2.2.2.2.2.2.2.1 e0.2.2.2.2.2.2.2.2.2.2.2.1 e0.2.2.2.2.2.2.2.2.2.2.2.2.1 e0.2.2.2.2.2.2.2.2.2.2.2.2.2.1 e0.2.2.2.2.2.2.2.2.2.2.2.2.2.2.1 e0.2.2.2.2.2.2.2.2.2.2.2.2.2.2.2.1 e0.2.2.2.2.2.2.2.2.2.2.2.2.2.2.2.2.1 e0.2.2.2.2.2.2.2.2.2.2.2.2.2.2.2.2.2.1 e0.2.2.2.2.2.2.2.2.2.2.2.2.2.2.2.2.2.2.1 e0.2.2.2.2.2.2.2.2.2.2.2.2.2.2.2.2.2.2.2.1 e0.2.2.2.2.2.2.2.2.2.2.2.2.2.2.2.2.2.2.2.2.1 e0.2.2.2.2.2.2.2.2.2.2.2.2.2.2.2.2.2.2.2.2.2.1 e0.2.2.2.2.2.2.2.2.2.2.2.2.2.2.2.2.2.2.2.2.2.2.1 e0.2.2.2.2.2.2.2.2.2.2.2.2.2.2.2.2.2.2.2.2.2.2.2.1 e0.2.2.2.2.2.2.2.2.2.2.2.2.2.2.2.2.2.2.2.2.2.2.2.2.1 e0.2.2.2.2.2.2.2.2.2.2.2.2.2.2.2.2.2.2.2.2.2.2.2.2.2.1 e0.2.2.2.2.2.2.2.2.2.2.2.2.2.2.2.2.2.2.2.2.2.2.2.2.2.2.1 e0.2.2.2.2.2.2.2.2.2.2.2.2.2.2.2.2.2.2.2.2.2.2.2.2.2.2.2.1 e0.2.2.2.2.2.2.2.2.2.2.2.2.2.2.2.2.2.2.2.2.2.2.2.2.2.2.2.2.1 e0.2.2.2.2.2.2.2.2.2.2.2.2.2.2.2.2.2.2.2.2.2.2.2.2.2.2.2.2.2.1 e0.2.2.2.2.2.2.2.2.2.2.2.2.2.2.2.2.2.2.2.2.2.2.2.2.2.2.2.2.2.2.1 e0.2.2.2.2.2.2.2.2.2.2.2.2.2.2.2.2.2.2.2.2.2.2.2.2.2.2.2.2.2.2.2.1 e0.2.2.2.2.2.2.2.2.2.2.2.2.2.2.2.2.2.2.2.2.2.2.2.2.2.2.2.2.2.2.2.2.1 e0.2.2.2.2.2.2.2.2.2.2.2.2.2.2.2.2.2.2.2.2.2.2.2.2.2.2.2.2.2.2.2.2.2.1 e0.2.2.2.2.2.2.2.2.2.2.2.2.2.2.2.2.2.2.2.2.2.2.2.2.2.2.2.2.2.2.2.2.2.2.1 e0.2.2.2.2.2.2.2.2.2.2.2.2.2.2.2.2.2.2.2.2.2.2.2.2.2.2.2.2.2.2.2.2.2.2.2.1 e0.2.2.2.2.2.2.2.2.2.2.2.2.2.2.2.2.2.2.2.2.2.2.2.2.2.2.2.2.2.2.2.2.2.2.2.2
noncomputable def q : Par := pick ne Goal
@[irreducible] noncomputable def w : World := q.1
@[irreducible] noncomputable def x : Nat := q.2.1
@[irreducible] noncomputable def y : Nat := q.2.2.1
@[irreducible] noncomputable def lp : Addr := q.2.2.2.1
@[irreducible] noncomputable def ln : Addr := q.2.2.2.2.1
@[irreducible] noncomputable def pvs : List Value := q.2.2.2.2.2.1
@[irreducible] noncomputable def cp : Nat := q.2.2.2.2.2.2.1
@[irreducible] noncomputable def cnn : Nat := q.2.2.2.2.2.2.2.1
@[irreducible] noncomputable def n1 : Nat := q.2.2.2.2.2.2.2.2.1
@[irreducible] noncomputable def n2 : Nat := q.2.2.2.2.2.2.2.2.2.1
@[irreducible] noncomputable def n3 : Nat := q.2.2.2.2.2.2.2.2.2.2.1
@[irreducible] noncomputable def t1 : Tok := q.2.2.2.2.2.2.2.2.2.2.2.1
@[irreducible] noncomputable def t2 : Tok := q.2.2.2.2.2.2.2.2.2.2.2.2.1
@[irreducible] noncomputable def t3 : Tok := q.2.2.2.2.2.2.2.2.2.2.2.2.2.1
@[irreducible] noncomputable def news : Led := q.2.2.2.2.2.2.2.2.2.2.2.2.2.2.1
@[irreducible] noncomputable def p : Program := q.2.2.2.2.2.2.2.2.2.2.2.2.2.2.2.1
@[irreducible] noncomputable def loose : List PySem.Str := q.2.2.2.2.2.2.2.2.2.2.2.2.2.2.2.2.1
@[irreducible] noncomputable def mean : ExcName → Option Value := q.2.2.2.2.2.2.2.2.2.2.2.2.2.2.2.2.2.1
@[irreducible] noncomputable def mg : PySem.Str → Option Value := q.2.2.2.2.2.2.2.2.2.2.2.2.2.2.2.2.2.2.1
@[irreducible] noncomputable def mb : PySem.Str → Option Value := q.2.2.2.2.2.2.2.2.2.2.2.2.2.2.2.2.2.2.2.1
@[irreducible] noncomputable def dp : Nat := q.2.2.2.2.2.2.2.2.2.2.2.2.2.2.2.2.2.2.2.2.1
@[irreducible] noncomputable def un : Nat := q.2.2.2.2.2.2.2.2.2.2.2.2.2.2.2.2.2.2.2.2.2.1
@[irreducible] noncomputable def gd : Option (List Code) := q.2.2.2.2.2.2.2.2.2.2.2.2.2.2.2.2.2.2.2.2.2.2.1
@[irreducible] noncomputable def cn : PySem.Str := q.2.2.2.2.2.2.2.2.2.2.2.2.2.2.2.2.2.2.2.2.2.2.2.1
@[irreducible] noncomputable def cs : Scope := q.2.2.2.2.2.2.2.2.2.2.2.2.2.2.2.2.2.2.2.2.2.2.2.2.1
@[irreducible] noncomputable def a : Addr := q.2.2.2.2.2.2.2.2.2.2.2.2.2.2.2.2.2.2.2.2.2.2.2.2.2.1
@[irreducible] noncomputable def ccd : Value := q.2.2.2.2.2.2.2.2.2.2.2.2.2.2.2.2.2.2.2.2.2.2.2.2.2.2.1
@[irreducible] noncomputable def cl : List (PySem.Str × Addr) := q.2.2.2.2.2.2.2.2.2.2.2.2.2.2.2.2.2.2.2.2.2.2.2.2.2.2.2.1
@[irreducible] noncomputable def outer : List Env := q.2.2.2.2.2.2.2.2.2.2.2.2.2.2.2.2.2.2.2.2.2.2.2.2.2.2.2.2.1
@[irreducible] noncomputable def A₀ : Around := q.2.2.2.2.2.2.2.2.2.2.2.2.2.2.2.2.2.2.2.2.2.2.2.2.2.2.2.2.2.1
@[irreducible] noncomputable def base : Heap := q.2.2.2.2.2.2.2.2.2.2.2.2.2.2.2.2.2.2.2.2.2.2.2.2.2.2.2.2.2.2.1
@[irreducible] noncomputable def h₀ : Heap := q.2.2.2.2.2.2.2.2.2.2.2.2.2.2.2.2.2.2.2.2.2.2.2.2.2.2.2.2.2.2.2.1
@[irreducible] noncomputable def L : Addr := q.2.2.2.2.2.2.2.2.2.2.2.2.2.2.2.2.2.2.2.2.2.2.2.2.2.2.2.2.2.2.2.2.1
@[irreducible] noncomputable def m : PySem.Str → Option Value := q.2.2.2.2.2.2.2.2.2.2.2.2.2.2.2.2.2.2.2.2.2.2.2.2.2.2.2.2.2.2.2.2.2.1
@[irreducible] noncomputable def s : Shared := q.2.2.2.2.2.2.2.2.2.2.2.2.2.2.2.2.2.2.2.2.2.2.2.2.2.2.2.2.2.2.2.2.2.2.1
@[irreducible] noncomputable def Q : Value → Shared → Prop := q.2.2.2.2.2.2.2.2.2.2.2.2.2.2.2.2.2.2.2.2.2.2.2.2.2.2.2.2.2.2.2.2.2.2.2.1
@[irreducible] noncomputable def E : Value → Shared → Prop := q.2.2.2.2.2.2.2.2.2.2.2.2.2.2.2.2.2.2.2.2.2.2.2.2.2.2.2.2.2.2.2.2.2.2.2.2
noncomputable def BH (g₉ : Heap) (l₉ : Addr) (h₉ : Heap) (t₉ : Nat) : Prop := BodyS w 107 106 18 [(PySem.Str.ofString "pair", .ref lp), (PySem.Str.ofString "numbers", .ref ln)] news dp un gd cn cs a ccd cl outer A₀ base h₀ L m s Q E (rfl : stm 18 = _) g₉ l₉ h₉ t₉
noncomputable def ev : EV := pick evne (fun e => BH e.g e.l e.h e.t)
@[irreducible] noncomputable def g' : Heap := ev.g
@[irreducible] noncomputable def L' : Addr := ev.l
@[irreducible] noncomputable def h' : Heap := ev.h
@[irreducible] noncomputable def tk' : Nat := ev.t
theorem body (hx : x ∈ signs17 ∧ x ≠ 46) (hy : y ∈ signs17 ∧ y ≠ 46) (hxy : x ≠ y) (hp : (lp, W.listOf pvs.toArray cp) ∈ news) (hpv : F2 TxtV [[x], [y]] pvs) (hn : (ln, W.listOf #[.int (n1 : Nat) t1, .int (n2 : Nat) t2, .int (n3 : Nat) t3] cnn) ∈ news) (h1 : n1 < 100000000) (h2 : n2 < 100000000) (h3 : n3 < 100000000) (B : Below A₀ base outer h₀) (X : (K0 w.params).In base) (T : Top p loose mean mg mb base) (C1 : CodeHd base 61 57) (C2 : CodeHd base 170 168) (D : KtsDicts (frs outer) h₀) (hk : cs.kind = .function) (hd : dp < 700) (hu : un < 8 * 700) (hret : ∀ h r news' h' tk', KtsTurn (frs outer) h₀ h → Below A₀ base outer h → KtsDicts (frs outer) h → Fr h L h' m → News h L h' news' → ((WordsP x y news)) r news' → Q r { s with heap := h', toks := tk' }) : BH g' L' h' tk' := by
  have yc : Clo := .mk
  w_on
  intro cells' F' N' Y' B' lt' D'
  have X' := X.keeps B'.stays
  have T' := T.keeps B'.stays
  have C1' := C1.keeps B'.stays
  have C2' := C2.keeps B'.stays
  k_cells Y'
  (try simp only [List.cons_append, List.nil_append] at N')
  rename_i oW oP dW dP0
  revert oW oP dW dP0 N'
  intro oW oP dW dP0 N'
  (try dsimp only)
  (try k_fold)
  k_steps
  rename_i wl0 _ l1 _ rl0 _ l2 _ FW NW
  have dP : oP.data = .cell (some (.ref lp)) := dP0
  refine Stop.go (For_turns FW ?_)
  k_steps
  rename_i hr F1 N1 hkp
  clear hkp
  refine for_range (n := 3) (J1 x y L' oW oP news _) rfl F1 N1 hr (by decide) (by decide) ⟨KeptK.refl _ _, _, _, _, _, _, _, rfl, rfl, .cons ⟨_, rfl⟩ .nil, .nil, l1.1, fun p hp => Nat.ne_of_lt (AllLt.mem l1.2.2 p hp), rfl⟩ ?step1 ?done1
  case step1 =>
    refine cl9 ?_; generalize cl9_1 _ _ = i, cl9_2 _ _ = m', cl9_3 _ _ = n', cl9_4 _ _ = h7, cl9_5 _ _ = tk7, cl9_6 _ _ = I, cl9_7 _ _ = oI, cl9_8 _ _ = tt, cl9_9 _ _ = Q13
    intro hi
    intro zz1
    obtain ⟨hk7, rl, wl, rvs, wvs, rc, wc, e1, e2, f1, f2, f3, f4, zz2⟩ := zz1
    revert hk7 rl wl rvs wvs rc wc e1 e2 f1 f2 f3 f4 zz2
    intro hk7 rl wl rvs wvs rc wc e1 e2 f1 f2 f3 f4 zz2
    subst zz2
    intro hofI F7 N7 hQ13
    clear yc
    clear F1 N1
    have F8 := fr_to F7 (mapK_eq hk7)
    clear F7
    dsimp only [mapK] at F8
    rw [e1, e2] at F8
    k_steps
    refine Stop.go (Assign_lc2 (F₀ := by assumption) rfl (by with_unfolding_all rfl) (by with_unfolding_all rfl) (by decide) (by rfl) (by decide) (by rfl) (by rfl) (by decide) (by rfl) (by rfl) ?_)
    k_steps
    have hrl : rvs.length ≤ 8 := by
      rw [← f1.length, rowL_len]
      exact Nat.le_trans (Nat.pow_le_pow_right (by decide) (Nat.le_of_lt_succ hi)) (by decide)
    refine ⟨rl, rc, rvs, rowL x y i, lp, cp, pvs, [[x], [y]], fun a b => a ++ b, _, rfl, rfl, by assumption, by assumption, by simp, by simp [hp], f1, hpv, by omega, by rw [← hpv.length]; exact Nat.le_of_ble_eq_true rfl, ?iy1, ?el1, ?fi1⟩
    case iy1 =>
      intro a ta C oC m₂ h8 g8 tk8 E8 led ho hx8 F9 N9 hC hs
      have hcp := hs (L' + 1, oP) (by first | k_extra "mm" | simp)
      clear F8 N7
      k_steps
      exact EEnd.mk F9 N9 Sub.refl rfl
    case el1 =>
      intro a ta b tb C oC m₂ h8 g8 tk8 E8 led ha hb ho hx8 hy8 F9 N9 hC hs
      have hla : (tx (a ++ b)).length ≤ 1000000 := by
        rw [tx_length, List.length_append, (rowL_mem i a ha).1]
        simp only [List.mem_cons, List.not_mem_nil, or_false] at hb
        rcases hb with rfl | rfl <;> simp <;> omega
      have eab := tx_append a b
      clear F8 N7
      k_steps
      exact EEnd.mk F9 N9 Sub.refl ⟨_, rfl⟩
    case fi1 =>
      intro ys Dr h8 tk8 hys F9 N9 off9
      clear F8 N7
      k_steps
      refine Stop.go (PyProof.Rows.LCg.ListComp_U (F₀ := by assumption) (by with_unfolding_all rfl) (by decide) (by rfl) (by decide) (by rfl) ?_)
      k_steps
      have hyl : ys.length = (rowL x y (i + 1)).length := hys.length.symm
      have hyl8 : ys.length ≤ 8 := by
        rw [hyl, rowL_len]
        exact Nat.le_trans (Nat.pow_le_pow_right (by decide) hi) (by decide)
      refine Stop.go (comp_inv (k := ys.length) (its := ys) (fun j zs => F2 TxtV (((rowL x y (i + 1)).take j).map enc) zs) rfl (by assumption) (by assumption) (by k_mem) (by omega) .nil ?step2 ?fin2)
      case step2 =>
        intro j zs v I2 oI2 C oC D2 m₂ h10 g10 tk10 E10 hv hj ho hx10 F10 N10
        clear F9 N9
        obtain ⟨a, ha⟩ : ∃ a, (rowL x y (i + 1))[j]? = some a := ⟨_, List.getElem?_eq_getElem (by rw [← hyl]; exact (List.getElem?_eq_some_iff.mp hv).1)⟩
        revert a ha
        intro a ha
        obtain ⟨zz3, q1, ta, zz4⟩ := F2.get j hys ha
        revert zz3 q1 ta zz4
        intro _ q1 ta zz4
        subst zz4
        rw [hv] at q1
        cases q1
        obtain ⟨la, sa⟩ := rowL_mem (i + 1) a (List.mem_of_getElem? ha)
        revert la sa
        intro la sa
        k_steps
        refine list_signs (A := _) rfl F10 N10 (by omega) ?_
        intro D3 c3 vs3 h11 tk11 F11 N11 l11 hv3
        clear F10 N10
        k_steps
        with_unfolding_all refine join_my (sl := [46]) N11 (k := c3) List.mem_cons_self hv3 (by first | k_extra "mm" | simp) (by simp; omega) ?hj ?_
        case hj =>
          intro y hy
          obtain ⟨c, zz5, zz6⟩ := List.mem_map.mp hy
          revert c zz5 zz6
          intro c _ zz6
          subst zz6
          simp
        intro t' k'
        rw [join_enc]
        k_steps
        refine EEnd.mk F11 N11 (Sub.skip Sub.refl) ?_
        have etake : (rowL x y (i + 1)).take (j + 1) = (rowL x y (i + 1)).take j ++ [a] := by rw [List.take_add_one, ha]; rfl
        rw [etake, List.map_append]
        exact hj.snoc ⟨_, rfl⟩
      case fin2 =>
        intro g10 zs hj D2 h10 tk10 F10 N10 off10
        clear F9 N9
        rw [hyl, List.take_length] at hj
        have hzl : zs.length ≤ 8 := by rw [← hj.length, List.length_map, ← hyl]; exact hyl8
        have hwl : wvs.length ≤ 14 := by rw [← f2.length, List.length_map]; exact wordsL_len i (by omega)
        k_steps
        rename_i D5 _ _ _ l5 _ F5 N5
        refine AgainF.next F5 N5 ?b1 ?b2 ?b3 ⟨by k_extra "kept", Dr, D5, ys, wvs ++ zs, ys.length, 0, rfl, rfl, hys, by rw [wordsL, List.map_append]; exact f2.append hj, l5.2.2.2.2.2.1, fun p hp => Nat.ne_of_lt (AllLt.mem l5.2.2.2.2.2.2.2 p hp), rfl⟩
        case b1 => exact Sub.cons (by k_mem) (fun _ h => nomatch h)
        case b2 =>
          intro p hp
          simp only [List.mem_cons] at hp ⊢
          rcases hp with hp | hp | hp | hp | hp
          · exact .inr (.inr (.inl hp))
          · exact .inl hp
          · exact .inr (.inr (.inr (.inr (.inr (.inr (.inl hp))))))
          · exact .inr (.inr (.inr (.inr (.inr (.inr (.inr (.inl hp)))))))
          · exact .inr (.inr (.inr (.inr (.inr (.inr (.inr (.inr hp)))))))
        case b3 =>
          intro p hp q hq
          rw [List.mem_singleton.mp hq]
          simp only [List.mem_cons] at hp
          rcases hp with rfl | rfl | hp | hp | hp
          · exact Ne.symm off9.1
          · exact Nat.ne_of_gt l5.2.2.1
          · exact hofI p (by first | k_extra "mm" | simp [hp])
          · exact hofI p (by first | k_extra "mm" | simp [hp])
          · exact hofI p (by first | k_extra "mm" | simp [hp])
  case done1 =>
    intro m' n' h7 tk7
    intro zz7
    obtain ⟨hk7, rl, wl, rvs, wvs, rc, wc, e1, e2, f1, f2, f3, f4, zz8⟩ := zz7
    revert hk7 rl wl rvs wvs rc wc e1 e2 f1 f2 f3 f4 zz8
    intro hk7 rl wl rvs wvs rc wc e1 e2 f1 f2 f3 f4 zz8
    subst zz8
    intro F7 N7
    clear F1 N1
    have F8 := fr_to F7 (mapK_eq hk7)
    clear F7
    dsimp only [mapK] at F8
    rw [e1, e2] at F8
    k_steps
    rename_i dl _ _ _ ld _ F9 N9
    have hdl : @LT.lt Nat _ (L' + 1 + 1) dl := ld.2.2.1
    have hgt : ∀ p ∈ news, @LT.lt Nat _ p.1 L' := lt'
    have hk1 : ∀ p ∈ news, p.1 ≠ L' + 1 := fun p hp => by have := hgt p hp; show @Ne Nat p.1 _; omega
    have hk2 : ∀ p ∈ news, p.1 ≠ L' + 1 + 1 := fun p hp => by have := hgt p hp; show @Ne Nat p.1 _; omega
    have hk3 : ∀ p ∈ news, p.1 ≠ dl := fun p hp => Nat.ne_of_lt (AllLt.mem ld.2.2.2.2 p hp)
    refine Stop.go (For_turns F9 ?_)
    k_steps
    obtain ⟨w1, w2, w3⟩ := words3 hxy
    revert w1 w2 w3
    intro w1 w2 w3
    refine for_list2 (n := cnn) (vs := [.int (n1 : Nat) t1, .int (n2 : Nat) t2, .int (n3 : Nat) t3]) (J2 x y L' dl oP news _) rfl F9 (fun p hp => N9 p (by simp only [List.mem_cons] at hp ⊢; exact hp.imp_right .inr)) (by first | k_extra "mm" | simp [hn]) ⟨KeptK.refl _ _, [], wordsL x y 3, [], wvs, 0, wc, wl, oW, _, rfl, .nil, f2, rfl, w1, w2, w3, dW, Nat.ne_of_gt ld.2.1, Nat.ne_of_gt f3, f4, rfl⟩ ?keep2 ?step2 ?done2
    case keep2 =>
      intro i m' n'
      intro zz9
      obtain ⟨zz10, code, rest, cvs, wvs, cc, wc, wl, oW, cv, zz11, zz12, zz13, zz14, zz15, zz16, zz17, zz18, zz19, zz20, zz21, zz22⟩ := zz9
      revert zz10 code rest cvs wvs cc wc wl oW cv zz11 zz12 zz13 zz14 zz15 zz16 zz17 zz18 zz19 zz20 zz21 zz22
      intro _ code rest cvs wvs cc wc wl oW cv _ _ _ _ _ _ _ _ _ _ _ zz22
      subst zz22
      simp [hn]
    case step2 =>
      refine cl9 ?_; generalize cl9_1 _ _ = i, cl9_2 _ _ = v, cl9_3 _ _ = m', cl9_4 _ _ = n', cl9_5 _ _ = h10, cl9_6 _ _ = tk10, cl9_7 _ _ = I, cl9_8 _ _ = oI, cl9_9 _ _ = Q14
      intro hv
      intro zz23
      obtain ⟨hk10, code, rest, cvs, wvs, cc, wc, wl, oW, cv, g1, g2, g3, g4, g5, g6, g7, g8, g9, g10, g11, zz24⟩ := zz23
      revert hk10 code rest cvs wvs cc wc wl oW cv g1 g2 g3 g4 g5 g6 g7 g8 g9 g10 g11 zz24
      intro hk10 code rest cvs wvs cc wc wl oW cv g1 g2 g3 g4 g5 g6 g7 g8 g9 g10 g11 zz24
      subst zz24
      intro hofI F10 N10 hQ14
      clear yc
      clear F9 N9
      have F11 := fr_to F10 (mapK_eq hk10)
      clear F10
      dsimp only [mapK] at F11
      rw [g1] at F11
      obtain ⟨n, tn, zz25⟩ : ∃ n t, v = .int ((n : Nat) : Int) t := by
        match i, hv with
        | 0, e => cases e; exact ⟨_, _, rfl⟩
        | 1, e => cases e; exact ⟨_, _, rfl⟩
        | 2, e => cases e; exact ⟨_, _, rfl⟩
        | n + 3, e => simp at e
      revert n tn zz25
      intro n tn zz25
      subst zz25
      have hi : i < 3 := (List.getElem?_eq_some_iff.mp hv).1
      have hwl : wvs.length = rest.length := by rw [← g3.length, List.length_map]
      have hz : ((wvs.toArray.size : Nat) : Int) = ((rest.length : Nat) : Int) := by rw [List.size_toArray, hwl]
      have hs : wvs.toArray.size ≤ 100000 := by rw [List.size_toArray, hwl]; omega
      have hq : n % rest.length < rest.length := Nat.mod_lt _ (by omega)
      obtain ⟨a, ha⟩ : ∃ a, rest[n % rest.length]? = some a := ⟨_, List.getElem?_eq_getElem hq⟩
      revert a ha
      intro a ha
      obtain ⟨zz26, ha2, ta, zz27⟩ := g3.get (a := enc a) (n % rest.length) (by rw [List.getElem?_map, ha]; rfl)
      revert zz26 ha2 ta zz27
      intro _ ha2 ta zz27
      subst zz27
      have hfm : ((n : Nat) : Int).fmod ((rest.length : Nat) : Int) = ((n % rest.length : Nat) : Int) := by rw [Int.fmod_eq_emod_of_nonneg _ (by omega)]; omega
      have hitem : ItemAt wvs.toArray (((n : Nat) : Int).fmod ((rest.length : Nat) : Int)) (.str (tx (enc a)) ta) := ⟨hs, .inl ⟨by rw [hfm]; omega, by rw [hfm, Int.toNat_natCast]; simpa using ha2⟩⟩
      have hpos : 0 < ((rest.length : Nat) : Int) := by omega
      have hI2 : @Ne Nat I (L' + 1 + 1) := fun e => hofI (L' + 1 + 1, oW) (by first | k_extra "mm" | simp) e.symm
      have hI3 : @Ne Nat I dl := fun e => hofI (dl, W.listOf cvs.toArray cc) (by first | k_extra "mm" | simp) e.symm
      have hcl : cvs.length ≤ 3 := by rw [← g2.length, List.length_map, g4]; omega
      k_steps
      refine Stop.go (PyProof.Rows.LCt.Assign_ListComp_T (F₀ := by assumption) rfl (by with_unfolding_all rfl) (by with_unfolding_all rfl) (by decide) (by rfl) (by decide) (by rfl) (by rfl) (by rfl) ?_)
      k_steps
      refine Stop.go (filt_inv (ls := rest.map enc) (fun c => !decide (c = enc a)) id rfl (by assumption) (by assumption) (by k_mem) g3 (by rw [List.length_map]; omega) ?test4 ?elem4 ?fin4)
      case test4 =>
        intro j c t9 J oJ C oCC D ys m9 h9 g9 tk9 E9 hi9 hn9 hm9 F9 N9
        have hcmp : (tx c != tx (enc a)) = !decide (c = enc a) := by
          by_cases q : c = enc a
          · rw [q]; simp
          · have := tx_ne q
            simp [bne, this, q]
        clear F11
        k_steps
        rw [hcmp]
        exact TEnd.mk F9 N9 Sub.refl
      case elem4 =>
        intro j c t9 J oJ C oCC D ys m9 h9 g9 tk9 E9 hi9 hp9 hn9 hm9 F9 N9
        clear F11
        k_steps
        exact EEnd.mk F9 N9 Sub.refl ⟨_, rfl⟩
      case fin4 =>
        intro g9 ys hys D9 h9 tk9 F9 N9 off9
        clear F11
        rw [List.map_id, filter_enc] at hys
        rw [List.push_toArray] at N9
        obtain ⟨d1, d2⟩ := drop_one g6 (List.mem_of_getElem? ha)
        revert d1 d2
        intro d1 d2
        have offw : ∀ p ∈ news, p.1 ≠ D9 := fun p hp => off1_mem off9 p (by first | k_extra "mm" | simp [hp])
        k_steps
        rename Obj => oW2
        rename oW2.data = _ => dW2
        refine AgainF.next (by assumption) (by assumption) ?b1 ?b2 ?b3 ⟨by k_extra "kept", code ++ [a], rest.filter (fun z => !decide (z = a)), cvs ++ [.str (tx (enc a)) ta], ys, cc + 1, ys.length, D9, oW2, _, rfl, by rw [List.map_append]; exact g2.snoc ⟨_, rfl⟩, hys, by rw [List.length_append, g4]; rfl, by rw [d1, g5]; omega, d2, ?c1, dW2, off9.2.1, Ne.symm off9.2.2.2.1, offw, rfl⟩
        case c1 =>
          intro z hz
          refine g7 z ?_
          simp only [List.mem_append, List.mem_singleton] at hz ⊢
          rcases hz with (hz | hz) | hz
          · exact .inl hz
          · exact .inr (hz ▸ List.mem_of_getElem? ha)
          · exact .inr (List.mem_filter.mp hz).1
        case b1 => exact Sub.cons (by k_mem) (fun _ h => nomatch h)
        case b2 =>
          intro p hp
          simp only [List.mem_cons] at hp ⊢
          rcases hp with hp | hp | hp | hp | hp
          · exact .inr (.inr (.inl hp))
          · exact .inl hp
          · exact .inr (.inr (.inr (.inr (.inl hp))))
          · exact .inr (.inr (.inr (.inr (.inr (.inl hp)))))
          · exact .inr (.inr (.inr (.inr (.inr (.inr hp)))))
        case b3 =>
          refine all_cons ?_ (all_cons ?_ (all_cons ?_ (all_cons ?_ (fun p hp => ?_))))
          · intro q hq
            rw [List.mem_singleton.mp hq]
            exact Ne.symm hI3
          · intro q hq
            rw [List.mem_singleton.mp hq]
            exact Ne.symm off9.1
          · intro q hq
            rw [List.mem_singleton.mp hq]
            exact Ne.symm hI2
          · intro q hq
            rw [List.mem_singleton.mp hq]
            exact hofI (L' + 1, oP) (by first | k_extra "mm" | simp)
          · intro q hq
            rw [List.mem_singleton.mp hq]
            exact hofI p (by first | k_extra "mm" | simp [hp])
    case done2 =>
      intro m' n' h10 tk10
      intro zz28
      obtain ⟨hk10, code, rest, cvs, wvs, cc, wc, wl, oW, cv, g1, g2, g3, g4, g5, g6, g7, g8, g9, g10, g11, zz29⟩ := zz28
      revert hk10 code rest cvs wvs cc wc wl oW cv g1 g2 g3 g4 g5 g6 g7 g8 g9 g10 g11 zz29
      intro hk10 code rest cvs wvs cc wc wl oW cv g1 g2 g3 g4 g5 g6 g7 g8 g9 g10 g11 zz29
      subst zz29
      intro F10 N10
      clear F9 N9
      have F11 := fr_to F10 (mapK_eq hk10)
      clear F10
      dsimp only [mapK] at F11
      match code, g4 with
      | [a1, a2, a3], _ =>
        k_steps
        refine ⟨g', L', _, _, KtsTurn.refl, F11, N10, fun h'' p1 p2 p3 p4 p5 => hret h'' _ ((dl, W.listOf cvs.toArray cc) :: news) _ _ p1 p4 p5 p2 (fun p hp => p3 p ?_) ⟨dl, a1, a2, a3, cvs, cc, rfl, g2, rfl, hk3, ⟨hx, hy, fun z hz => g7 z (by simp only [List.mem_append]; exact .inl hz)⟩, (List.nodup_append.mp g6).1⟩⟩
        simp only [List.mem_cons] at hp ⊢
        exact hp.imp_right fun h => .inr (.inr (.inr h))
theorem main (hx : x ∈ signs17 ∧ x ≠ 46) (hy : y ∈ signs17 ∧ y ≠ 46) (hxy : x ≠ y) (hp : (lp, W.listOf pvs.toArray cp) ∈ news) (hpv : F2 TxtV [[x], [y]] pvs) (hn : (ln, W.listOf #[.int (n1 : Nat) t1, .int (n2 : Nat) t2, .int (n3 : Nat) t3] cnn) ∈ news) (h1 : n1 < 100000000) (h2 : n2 < 100000000) (h3 : n3 < 100000000) : FnSG w 700 107 [.ref lp, .ref ln] news (WordsP x y news) p loose mean mg mb dp un gd cn cs a ccd cl outer A₀ base h₀ L m s Q E := by
  intro B F N X T C1 C2 D hk hd hu hret
  refine wpAny_call ?_
  with_unfolding_all refine' code_myS (binds := [(PySem.Str.ofString "pair", .ref lp), (PySem.Str.ofString "numbers", .ref ln)]) B F N X T D ?kA ?kF ?kK ?ko ?est ?kcd ?kroom ?kbind ?kloc ?knd (fun g₁ l₁ h₁ t₁ => pick_all evne (P := fun e => BH e.g e.l e.h e.t) ?bd ⟨g₁, l₁, h₁, t₁⟩) ?kco ?kgen ?kkind
  (case kA => exact rfl)
  (case kF => exact rfl)
  (case kK => exact hk)
  (case ko => k_is)
  (case est => exact rfl)
  (case kcd => k_is)
  (case kroom => (show dp < 1000; omega))
  (case kbind => exact BindsTo.of_eq rfl)
  (case kloc => exact kindsX rfl)
  (case knd => decide +kernel)
  (case kco => exact rfl)
  (case kgen => exact rfl)
  (case kkind => exact rfl)
  (case bd => with_unfolding_all exact body hx hy hxy hp hpv hn h1 h2 h3 B X T C1 C2 D hk hd hu hret)
theorem goal_q : Goal q := by with_unfolding_all exact main
end Kwords
theorem words (w : World) (x y : Nat) (hx : x ∈ signs17 ∧ x ≠ 46) (hy : y ∈ signs17 ∧ y ≠ 46) (hxy : x ≠ y) (lp ln : Addr) (pvs : List Value) (cp cnn : Nat) (n1 n2 n3 : Nat) (t1 t2 t3 : Tok) (news : Led)
    (hp : (lp, W.listOf pvs.toArray cp) ∈ news) (hpv : F2 TxtV [[x], [y]] pvs) (hn : (ln, W.listOf #[.int (n1 : Nat) t1, .int (n2 : Nat) t2, .int (n3 : Nat) t3] cnn) ∈ news) (h1 : n1 < 100000000) (h2 : n2 < 100000000) (h3 : n3 < 100000000) :
    FnS w 700 107 [.ref lp, .ref ln] news (WordsP x y news) := by
  exact fun p loose mean mg mb dp un gd cn cs a ccd cl outer A₀ base h₀ L m s Q E => pick_all Kwords.ne (P := Kwords.Goal) Kwords.goal_q ⟨w, x, y, lp, ln, pvs, cp, cnn, n1, n2, n3, t1, t2, t3, news, p, loose, mean, mg, mb, dp, un, gd, cn, cs, a, ccd, cl, outer, A₀, base, h₀, L, m, s, Q, E⟩ hx hy hxy hp hpv hn h1 h2 h3
end S_FWo
section S_FRi
local macro_rules | `(tactic| walk_at "no rule") => `(tactic| skip)
local macro_rules | `(tactic| walk_at $s:str) => if s.getString ∈ ["call ref", "exec For Name Tuple cons nil"] then `(tactic| (refine Stop.mk ?_)) else Lean.Macro.throwUnsupported
local macro_rules | `(tactic| walk_at "callWith ref") => `(tactic| (refine' callWith_F ?k1 ?_; (case k1 => k_dflt (exact FnAt.of (by k_asm) (by k_mem)))))
inductive JR0 (w : World) (dT dA : Addr) (fix : Led) (c1 c2 lL lR : Addr) (kp : Led) (m0 m : PySem.Str → Option Value) (led : Led) : Prop
  | mk (h1 : KeptK [PySem.Str.ofString "part"] m0 m) (b : Led) (h2 : InvR w dT dA fix 0 b) (h3 : Apart ((lL, W.listOf #[] 0) :: (lR, W.listOf #[] 0) :: (168, tabObj (TAB2 c1 c2)) :: kp) b) (h4 : led = (lL, W.listOf #[] 0) :: (lR, W.listOf #[] 0) :: (168, tabObj (TAB2 c1 c2)) :: (kp ++ b)) : JR0 w dT dA fix c1 c2 lL lR kp m0 m led
inductive JR1 (w : World) (dT dA : Addr) (fix : Led) (amb2 : Prop) (c1 c2 lL lR : Addr) (kp : Led) (m0 m : PySem.Str → Option Value) (led : Led) : Prop
  | mk (h0 : KeptK [PySem.Str.ofString "part"] m0 m) (b : Led) (k : Nat) (r1 r2 : Addr) (e1 e2 : List (List Nat)) (v1 v2 : List Value) (q1 q2 qL qR : Nat) (c3 c4 : Addr) (oc3 oc4 : Obj) (h1 : InvR w dT dA fix k b) (h2 : k ≤ 2000) (h3 : lamQ c3 oc3) (h4 : lamQ c4 oc4) (h5 : RRes amb2 (fun _ => True) e1) (h6 : RRes amb2 (fun _ => True) e2) (h7 : F2 TxtV e1 v1) (h8 : F2 TxtV e2 v2)
      (h9 : ∀ p ∈ (168, tabObj (TAB4 c1 c2 c3 c4)) :: (c3, oc3) :: (c4, oc4) :: (r2, W.listOf v2.toArray q2) :: (r1, W.listOf v1.toArray q1) :: kp, p.1 ≠ lL ∧ p.1 ≠ lR) (h10 : ∀ p ∈ (c3, oc3) :: (c4, oc4) :: (r2, W.listOf v2.toArray q2) :: (r1, W.listOf v1.toArray q1) :: kp, p.1 ≠ 168)
      (h11 : Apart ((lL, W.listOf #[.ref r1] qL) :: (lR, W.listOf #[.ref r2] qR) :: (168, tabObj (TAB4 c1 c2 c3 c4)) :: (c3, oc3) :: (c4, oc4) :: (r2, W.listOf v2.toArray q2) :: (r1, W.listOf v1.toArray q1) :: kp) b)
      (h12 : led = (lL, W.listOf #[.ref r1] qL) :: (lR, W.listOf #[.ref r2] qR) :: (168, tabObj (TAB4 c1 c2 c3 c4)) :: (c3, oc3) :: (c4, oc4) :: (r2, W.listOf v2.toArray q2) :: (r1, W.listOf v1.toArray q1) :: (kp ++ b)) : JR1 w dT dA fix amb2 c1 c2 lL lR kp m0 m led
inductive JR2 (w : World) (dT dA : Addr) (fix : Led) (amb2 amb3 : Prop) (gL gR : List Nat → Prop) (lL lR : Addr) (kp : Led) (m0 m : PySem.Str → Option Value) (led : Led) : Prop
  | mk (h0 : KeptK [PySem.Str.ofString "part"] m0 m) (tbl : Array Value) (b : Led) (k : Nat) (r1 r2 r3 r4 : Addr) (e1 e2 e3 e4 : List (List Nat)) (v1 v2 v3 v4 : List Value) (q1 q2 q3 q4 qL qR : Nat) (h1 : InvR w dT dA fix k b) (h2 : k ≤ 4000) (h3 : RRes amb2 (fun _ => True) e1) (h4 : RRes amb2 (fun _ => True) e2) (h5 : RRes amb3 gL e3) (h6 : RRes amb3 gR e4) (h7 : F2 TxtV e1 v1) (h8 : F2 TxtV e2 v2) (h9 : F2 TxtV e3 v3) (h10 : F2 TxtV e4 v4)
      (h11 : Apart ((lL, W.listOf #[.ref r1, .ref r3] qL) :: (lR, W.listOf #[.ref r2, .ref r4] qR) :: (168, tabObj tbl) :: (r4, W.listOf v4.toArray q4) :: (r3, W.listOf v3.toArray q3) :: (r2, W.listOf v2.toArray q2) :: (r1, W.listOf v1.toArray q1) :: kp) b)
      (h12 : led = (lL, W.listOf #[.ref r1, .ref r3] qL) :: (lR, W.listOf #[.ref r2, .ref r4] qR) :: (168, tabObj tbl) :: (r4, W.listOf v4.toArray q4) :: (r3, W.listOf v3.toArray q3) :: (r2, W.listOf v2.toArray q2) :: (r1, W.listOf v1.toArray q1) :: (kp ++ b)) : JR2 w dT dA fix amb2 amb3 gL gR lL lR kp m0 m led
noncomputable def JR (w : World) (dT dA : Addr) (fix : Led) (amb2 amb3 : Prop) (gL gR : List Nat → Prop) (c1 c2 lL lR : Addr) (kp : Led) (m0 : PySem.Str → Option Value) : Nat → (PySem.Str → Option Value) → Led → Prop
  | 0, m, led => JR0 w dT dA fix c1 c2 lL lR kp m0 m led
  | 1, m, led => JR1 w dT dA fix amb2 c1 c2 lL lR kp m0 m led
  | _, m, led => JR2 w dT dA fix amb2 amb3 gL gR lL lR kp m0 m led
namespace Kright
abbrev Par : Type := (World) × (Addr) × (Nat) × (List Nat) × (List Nat) × (List Nat) × (Tok) × (Tok) × (Tok) × (List Nat) × (Tok) × (Led) × (Prop) × (Prop) × (Program) × (List PySem.Str) × (ExcName → Option Value) × (PySem.Str → Option Value) × (PySem.Str → Option Value) × (Nat) × (Nat) × (Option (List Code)) × (PySem.Str) × (Scope) × (Addr) × (Value) × (List (PySem.Str × Addr)) × (List Env) × (Around) × (Heap) × (Heap) × (Addr) × (PySem.Str → Option Value) × (Shared) × (Value → Shared → Prop) × (Value → Shared → Prop)
theorem ne : Nonempty Par := ⟨by refine ⟨?_, ?_, ?_, ?_, ?_, ?_, ?_, ?_, ?_, ?_, ?_, ?_, ?_, ?_, ?_, ?_, ?_, ?_, ?_, ?_, ?_, ?_, ?_, ?_, ?_, ?_, ?_, ?_, ?_, ?_, ?_, ?_, ?_, ?_, ?_, ?_⟩ <;> first | exact W0 | exact default | exact {} | exact FD0⟩
noncomputable def Goal : Par → Prop := fun e0 => (fun (w : World) (lc : Addr) (cc : Nat) (A1 : List Nat) (A2 : List Nat) (A3 : List Nat) (ta : Tok) (tb : Tok) (tc : Tok) (msg : List Nat) (tm : Tok) (own : Led) (amb2 : Prop) (amb3 : Prop) (p : Program) (loose : List PySem.Str) (mean : ExcName → Option Value) (mg : PySem.Str → Option Value) (mb : PySem.Str → Option Value) (dp : Nat) (un : Nat) (gd : Option (List Code)) (cn : PySem.Str) (cs : Scope) (a : Addr) (ccd : Value) (cl : List (PySem.Str × Addr)) (outer : List Env) (A₀ : Around) (base : Heap) (h₀ : Heap) (L : Addr) (m : PySem.Str → Option Value) (s : Shared) (Q : Value → Shared → Prop) (E : Value → Shared → Prop) => (hc : (lc, W.listOf #[.str (tx A1) ta, .str (tx A2) tb, .str (tx A3) tc] cc) ∈ own) → (hown : ∀ p ∈ own, p.1 ≠ 57 ∧ p.1 ≠ 168) → (K : LawOk A1 A2 A3 msg amb2 amb3) → FnSG w 800 171 [.ref lc, .str (tx msg) tm] ((57, tabObj #[]) :: (168, tabObj #[]) :: own) (fun r n' => r = .bool true ∧ (∃ ps, (57, tabObj ps) ∈ n') ∧ ∃ ps, (168, tabObj ps) ∈ n') p loose mean mg mb dp un gd cn cs a ccd cl outer A₀ base h₀ L m s Q E) e0.1 e0.2.1 e0.2.2.1 e0.2.2.2.1 e0.2.2.2.2.1 e0.2.2.2.2.2.1 e0.2.2.2.2.2.2.1 e0.2.2.2.2.2.2.2.1 e0.2.2.2.2.2.2.2.2.1 e0.2.2.2.2.2.2.2.2.2.1 e0.2.2.2.2.2.2.2.2.2.2.1 e0.2.2.2.2.2.2.2.2.2.2.2.1 e0.2.2.2.2.2.2.2.2.2.2.2.2.1 e0.2.2.2.2.2.2.2.2.2.2.2.2.2.1 e0.2.2.2.2.2.2.2.2.2.2.2.2.2.2.1 e0.2.2.2.2.2.2.2.2.2.2.2.2.2.2.2.1 e0.2.2.2.2.2.2.2.2.2.2.2.2.2.2.2.2.1 e0.2.2.2.2.2.2.2.2.2.2.2.2.2.2.2.2.2.1 e0.2.2.2.2.2.2.2.2.2.2.2.2.2.2.2.2.2.2.1 e0.2.2.2.2.2.2.2.2.2.2.2.2.2.2.2.2.2.2.2.1 e0.2.2.2.2.2.2.2.2.2.2.2.2.2.2.2.2.2.2.2.2.1 e0.2.2.2.2.2.2.2.2.2.2.2.2.2.2.2.2.2.2.2.2.2.1 e0.2.2.2.2.2.2.2.2.2.2.2.2.2.2.2.2.2.2.2.2.2.2.1 e0.2.2.2.2.2.2.2.2.2.2.2.2.2.2.2.2.2.2.2.2.2.2.2.1 e0.2.2.2.2.2.2.2.2.2.2.2.2.2.2.2.2.2.2.2.2.2.2.2.2.1 e0.2.2.2.2.2.2.2.2.2.2.2.2.2.2.2.2.2.2.2.2.2.2.2.2.2.1 e0.2.2.2.2.2.2.2.2.2.2.2.2.2.2.2.2.2.2.2.2.2.2.2.2.2.2.1 e0.2.2.2.2.2.2.2.2.2.2.2.2.2.2.2.2.2.2.2.2.2.2.2.2.2.2.2.1 e0.2.2.2.2.2.2.2.2.2.2.2.2.2.2.2.2.2.2.2.2.2.2.2.2.2.2.2.2.1 e0.2.2.2.2.2.2.2.2.2.2.2.2.2.2.2.2.2.2.2.2.2.2.2.2.2.2.2.2.2.1 e0.2.2.2.2.2.2.2.2.2.2.2.2.2.2.2.2.2.2.2.2.2.2.2.2.2.2.2.2.2.2.1 e0.2.2.2.2.2.2.2.2.2.2.2.2.2.2.2.2.2.2.2.2.2.2.2.2.2.2.2.2.2.2.2.1 e0.2.2.2.2.2.2.2.2.2.2.2.2.2.2.2.2.2.2.2.2.2.2.2.2.2.2.2.2.2.2.2.2.1 e0.2.2.2.2.2.2.2.2.2.2.2.2.2.2.2.2.2.2.2.2.2.2.2.2.2.2.2.2.2.2.2.2.2.1 e0.2.2.2.2.2.2.2.2.2.2.2.2.2.2.2.2.2.2.2.2.2.2.2.2.2.2.2.2.2.2.2.2.2.2.1 e0.2.2.2.2.2.2.2.2.2.2.2.2.2.2.2.2.2.2.2.2.2.2.2.2.2.2.2.2.2.2.2.2.2.2.2
noncomputable def q : Par := pick ne Goal
@[irreducible] noncomputable def w : World := q.1
@[irreducible] noncomputable def lc : Addr := q.2.1
@[irreducible] noncomputable def cc : Nat := q.2.2.1
@[irreducible] noncomputable def A1 : List Nat := q.2.2.2.1
@[irreducible] noncomputable def A2 : List Nat := q.2.2.2.2.1
@[irreducible] noncomputable def A3 : List Nat := q.2.2.2.2.2.1
@[irreducible] noncomputable def ta : Tok := q.2.2.2.2.2.2.1
@[irreducible] noncomputable def tb : Tok := q.2.2.2.2.2.2.2.1
@[irreducible] noncomputable def tc : Tok := q.2.2.2.2.2.2.2.2.1
@[irreducible] noncomputable def msg : List Nat := q.2.2.2.2.2.2.2.2.2.1
@[irreducible] noncomputable def tm : Tok := q.2.2.2.2.2.2.2.2.2.2.1
@[irreducible] noncomputable def own : Led := q.2.2.2.2.2.2.2.2.2.2.2.1
@[irreducible] noncomputable def amb2 : Prop := q.2.2.2.2.2.2.2.2.2.2.2.2.1
@[irreducible] noncomputable def amb3 : Prop := q.2.2.2.2.2.2.2.2.2.2.2.2.2.1
@[irreducible] noncomputable def p : Program := q.2.2.2.2.2.2.2.2.2.2.2.2.2.2.1
@[irreducible] noncomputable def loose : List PySem.Str := q.2.2.2.2.2.2.2.2.2.2.2.2.2.2.2.1
@[irreducible] noncomputable def mean : ExcName → Option Value := q.2.2.2.2.2.2.2.2.2.2.2.2.2.2.2.2.1
@[irreducible] noncomputable def mg : PySem.Str → Option Value := q.2.2.2.2.2.2.2.2.2.2.2.2.2.2.2.2.2.1
@[irreducible] noncomputable def mb : PySem.Str → Option Value := q.2.2.2.2.2.2.2.2.2.2.2.2.2.2.2.2.2.2.1
@[irreducible] noncomputable def dp : Nat := q.2.2.2.2.2.2.2.2.2.2.2.2.2.2.2.2.2.2.2.1
@[irreducible] noncomputable def un : Nat := q.2.2.2.2.2.2.2.2.2.2.2.2.2.2.2.2.2.2.2.2.1
@[irreducible] noncomputable def gd : Option (List Code) := q.2.2.2.2.2.2.2.2.2.2.2.2.2.2.2.2.2.2.2.2.2.1
@[irreducible] noncomputable def cn : PySem.Str := q.2.2.2.2.2.2.2.2.2.2.2.2.2.2.2.2.2.2.2.2.2.2.1
@[irreducible] noncomputable def cs : Scope := q.2.2.2.2.2.2.2.2.2.2.2.2.2.2.2.2.2.2.2.2.2.2.2.1
@[irreducible] noncomputable def a : Addr := q.2.2.2.2.2.2.2.2.2.2.2.2.2.2.2.2.2.2.2.2.2.2.2.2.1
@[irreducible] noncomputable def ccd : Value := q.2.2.2.2.2.2.2.2.2.2.2.2.2.2.2.2.2.2.2.2.2.2.2.2.2.1
@[irreducible] noncomputable def cl : List (PySem.Str × Addr) := q.2.2.2.2.2.2.2.2.2.2.2.2.2.2.2.2.2.2.2.2.2.2.2.2.2.2.1
@[irreducible] noncomputable def outer : List Env := q.2.2.2.2.2.2.2.2.2.2.2.2.2.2.2.2.2.2.2.2.2.2.2.2.2.2.2.1
@[irreducible] noncomputable def A₀ : Around := q.2.2.2.2.2.2.2.2.2.2.2.2.2.2.2.2.2.2.2.2.2.2.2.2.2.2.2.2.1
@[irreducible] noncomputable def base : Heap := q.2.2.2.2.2.2.2.2.2.2.2.2.2.2.2.2.2.2.2.2.2.2.2.2.2.2.2.2.2.1
@[irreducible] noncomputable def h₀ : Heap := q.2.2.2.2.2.2.2.2.2.2.2.2.2.2.2.2.2.2.2.2.2.2.2.2.2.2.2.2.2.2.1
@[irreducible] noncomputable def L : Addr := q.2.2.2.2.2.2.2.2.2.2.2.2.2.2.2.2.2.2.2.2.2.2.2.2.2.2.2.2.2.2.2.1
@[irreducible] noncomputable def m : PySem.Str → Option Value := q.2.2.2.2.2.2.2.2.2.2.2.2.2.2.2.2.2.2.2.2.2.2.2.2.2.2.2.2.2.2.2.2.1
@[irreducible] noncomputable def s : Shared := q.2.2.2.2.2.2.2.2.2.2.2.2.2.2.2.2.2.2.2.2.2.2.2.2.2.2.2.2.2.2.2.2.2.1
@[irreducible] noncomputable def Q : Value → Shared → Prop := q.2.2.2.2.2.2.2.2.2.2.2.2.2.2.2.2.2.2.2.2.2.2.2.2.2.2.2.2.2.2.2.2.2.2.1
@[irreducible] noncomputable def E : Value → Shared → Prop := q.2.2.2.2.2.2.2.2.2.2.2.2.2.2.2.2.2.2.2.2.2.2.2.2.2.2.2.2.2.2.2.2.2.2.2
noncomputable def BH (g₉ : Heap) (l₉ : Addr) (h₉ : Heap) (t₉ : Nat) : Prop := BodyS w 171 170 28 [(PySem.Str.ofString "code", .ref lc), (PySem.Str.ofString "message", .str (tx msg) tm)] ((57, tabObj #[]) :: (168, tabObj #[]) :: own) dp un gd cn cs a ccd cl outer A₀ base h₀ L m s Q E (rfl : stm 28 = _) g₉ l₉ h₉ t₉
noncomputable def ev : EV := pick evne (fun e => BH e.g e.l e.h e.t)
@[irreducible] noncomputable def g' : Heap := ev.g
@[irreducible] noncomputable def L' : Addr := ev.l
@[irreducible] noncomputable def h' : Heap := ev.h
@[irreducible] noncomputable def tk' : Nat := ev.t
theorem body (hc : (lc, W.listOf #[.str (tx A1) ta, .str (tx A2) tb, .str (tx A3) tc] cc) ∈ own) (hown : ∀ p ∈ own, p.1 ≠ 57 ∧ p.1 ≠ 168) (K : LawOk A1 A2 A3 msg amb2 amb3) (B : Below A₀ base outer h₀) (X : (K0 w.params).In base) (T : Top p loose mean mg mb base) (C1 : CodeHd base 61 57) (C2 : CodeHd base 170 168) (D : KtsDicts (frs outer) h₀) (hk : cs.kind = .function) (hd : dp < 800) (hu : un < 8 * 800) (hret : ∀ h r news' h' tk', KtsTurn (frs outer) h₀ h → Below A₀ base outer h → KtsDicts (frs outer) h → Fr h L h' m → News h L h' news' → ((fun r n' => r = .bool true ∧ (∃ ps, (57, tabObj ps) ∈ n') ∧ ∃ ps, (168, tabObj ps) ∈ n')) r news' → Q r { s with heap := h', toks := tk' }) : BH g' L' h' tk' := by
  have yc : Clo := .mk
  w_on
  intro cells' F' N' Y' B' lt' D'
  have X' := X.keeps B'.stays
  have T' := T.keeps B'.stays
  have C1' := C1.keeps B'.stays
  have C2' := C2.keeps B'.stays
  k_cells Y'
  (try simp only [List.cons_append, List.nil_append] at N')
  rename_i oq1 oq2 dq1 dq2
  revert oq1 oq2 dq1 dq2 N'
  intro oq1 oq2 dq1 dq2 N'
  (try dsimp only)
  (try k_fold)
  have h57 : @LT.lt Nat _ 57 L' := lt' (57, tabObj #[]) (by first | k_extra "mm" | simp)
  have h168 : @LT.lt Nat _ 168 L' := lt' (168, tabObj #[]) (by first | k_extra "mm" | simp)
  have hgt : ∀ p ∈ own, @LT.lt Nat _ p.1 L' := fun p hp => lt' p (by first | k_extra "mm" | simp [hp])
  have hk1 : ∀ p ∈ own, p.1 ≠ L' + 1 := fun p hp => Nat.ne_of_lt (Nat.lt_succ_of_lt (hgt p hp))
  have hk2 : ∀ p ∈ own, p.1 ≠ L' + 1 + 1 := fun p hp => Nat.ne_of_lt (Nat.lt_succ_of_lt (Nat.lt_succ_of_lt (hgt p hp)))
  have hk3 : ∀ p ∈ own, p.1 ≠ 168 := fun p hp => (hown p hp).2
  have hsl : (slicePick #[Value.str (tx A1) ta, .str (tx A2) tb, .str (tx A3) tc] none (some 2) none).toList = [.str (tx A1) ta, .str (tx A2) tb] := by
    have := slicePick_upto' #[Value.str (tx A1) ta, .str (tx A2) tb, .str (tx A3) tc] 2
    exact (congrArg Array.toList this).trans rfl
  k_steps
  rename_i dT _ oT loT hsT0 fsT hiT fiT lT1 _ ocT hcT dA _ oA loA hsA0 fsA hiA fiA lA1 _ ocA hcA f1 c1 oc1 vs1 tq1 ct1 dc1 _ _ hd1 hv1 lc1 lf1 _ f2 c2 oc2 vs2 tq2 ct2 dc2 _ _ hd2 hv2 lc2 lf2 _ lL _ lL1 _ lR _ lR1 _ FW NW
  clear fsT hiT fiT fsA hiA fiA
  obtain ⟨fo1, fo2, M1, M2, NW⟩ : ∃ fo1 fo2, (∃ qual doc pm ct, fo1 = fobjN 2 [(PySem.Str.ofString "taken", L' + 1 + 1)] qual doc pm c1 ct ∧ vs1[1]? = some (.str qual tq1)) ∧ (∃ qual doc pm ct, fo2 = fobjN 3 [(PySem.Str.ofString "asked", L' + 1)] qual doc pm c2 ct ∧ vs2[1]? = some (.str qual tq2)) ∧
      News g' L' _ ((lR, W.listOf #[] 0) :: (lL, W.listOf #[] 0) :: (f2, fo2) :: (c2, oc2) :: (f1, fo1) :: (c1, oc1) :: (dA, oA) :: (dT, oT) :: (L' + 1 + 1, ocT) :: (L' + 1, ocA) :: (57, tabObj #[]) :: (168, tabObj (TAB2 c1 c2)) :: own) := by
    refine' ⟨_, _, ⟨_, _, _, _, ?e1, hv1⟩, ⟨_, _, _, _, ?e2, hv2⟩, NW⟩
    case e1 => with_unfolding_all exact rfl
    case e2 => with_unfolding_all exact rfl
  revert fo1 fo2 M1 M2 NW
  intro fo1 fo2 M1 M2 NW
  have hs57 : @LT.lt Nat _ 57 (L' + 1) := Nat.lt_succ_of_lt h57
  have hdTL : @LT.lt Nat _ (L' + 1 + 1) dT := lT1.1
  have hdAT : @LT.lt Nat _ dT dA := lA1.1
  have hc1A : @LT.lt Nat _ dA c1 := lc1.1
  have hf1 : @LT.lt Nat _ c1 f1 := lf1
  have hc2 : @LT.lt Nat _ f1 c2 := lc2.1
  have hf2 : @LT.lt Nat _ c2 f2 := lf2
  have hlL : @LT.lt Nat _ f2 lL := lL1.1
  have hlR : @LT.lt Nat _ lL lR := lR1.1
  clear lT1 lA1 lc1 lf1 lc2 lf2 lL1 lR1
  have h57T : @LT.lt Nat _ 57 dT := Nat.lt_trans (Nat.lt_succ_of_lt hs57) hdTL
  have XF : Fix dT dA [(f2, fo2), (c2, oc2), (f1, fo1), (c1, oc1), (L' + 1 + 1, ocT), (L' + 1, ocA)] := by
    have a1 := Nat.lt_trans hc1A hf1
    have a2 := Nat.lt_trans a1 hc2
    have a3 := Nat.lt_trans a2 hf2
    have e1 : @LT.lt Nat _ (L' + 1) dT := Nat.lt_trans (Nat.lt_succ_self _) hdTL
    have go : ∀ {x : Addr}, @LT.lt Nat _ dA x → x ≠ 57 ∧ x ≠ dT ∧ x ≠ dA := fun h => ⟨Nat.ne_of_gt (Nat.lt_trans (Nat.lt_trans h57T hdAT) h), Nat.ne_of_gt (Nat.lt_trans hdAT h), Nat.ne_of_gt h⟩
    exact ⟨h57T, hdAT, loT, loA, all_cons (go a3) (all_cons (go a2) (all_cons (go a1) (all_cons (go hc1A) (all_cons ⟨Nat.ne_of_gt (Nat.lt_succ_of_lt hs57), Nat.ne_of_lt hdTL, Nat.ne_of_lt (Nat.lt_trans hdTL hdAT)⟩ (all_cons ⟨Nat.ne_of_gt hs57, Nat.ne_of_lt e1, Nat.ne_of_lt (Nat.lt_trans e1 hdAT)⟩ (fun _ h => nomatch h))))))⟩
  have hRL : RestC w 870 f1 fo1 restL DmR (InvR w dT dA [(f2, fo2), (c2, oc2), (f1, fo1), (c1, oc1), (L' + 1 + 1, ocT), (L' + 1, ocA)]) := by
    refine restC_L XF (c1 := c1) (cT := L' + 1 + 1) ⟨?_, by simp, ⟨ocT, by simp, hcT⟩⟩
    obtain ⟨qual, doc, pm, ct, z1, z2⟩ := M1
    revert qual doc pm ct z1 z2
    intro qual doc pm ct z1 z2
    exact ⟨qual, doc, pm, ct, z1, oc1, vs1, tq1, by simp, hd1, z2⟩
  have hRR : RestC w 870 f2 fo2 aheadL DmR (InvR w dT dA [(f2, fo2), (c2, oc2), (f1, fo1), (c1, oc1), (L' + 1 + 1, ocT), (L' + 1, ocA)]) := by
    refine restC_R XF (c1 := c2) (cT := L' + 1) ⟨?_, by simp, ⟨ocA, by simp, hcA⟩⟩
    obtain ⟨qual, doc, pm, ct, z1, z2⟩ := M2
    revert qual doc pm ct z1 z2
    intro qual doc pm ct z1 z2
    exact ⟨qual, doc, pm, ct, z1, oc2, vs2, tq2, by simp, hd2, z2⟩
  refine Stop.go (For_S ?_)
  k_steps
  rename_i sl _ lsl tp hq FW NW lT
  dsimp only
  have hsT : @LT.lt Nat _ sl tp := lT.1
  have hsl1 : @LT.lt Nat _ lR sl := lsl.1
  have hL4 : @LT.lt Nat _ 168 L' := h168
  generalize hfix : [(f2, fo2), (c2, oc2), (f1, fo1), (c1, oc1), (L' + 1 + 1, ocT), (L' + 1, ocA)] = fix at *
  obtain ⟨kp, hkp⟩ : ∃ kp, kp = (tp, ({ cls := .type "tuple", data := .seq #[.ref sl, .ref lc] } : Obj)) :: (sl, W.listOf #[.str (tx A1) ta, .str (tx A2) tb] 0) :: own := ⟨_, rfl⟩
  revert kp hkp
  intro kp hkp
  have NW2 : News g' L' hq ((lL, W.listOf #[] 0) :: (lR, W.listOf #[] 0) :: (168, tabObj (TAB2 c1 c2)) :: (kp ++ ((57, tabObj #[]) :: (dT, oT) :: (dA, oA) :: ([] ++ fix)))) := by
    rw [hkp, ← hfix]
    refine fun p hp => NW p ((?_ : ∀ q ∈ _, q ∈ _) p hp)
    exact all_cons (by k_extra "mm") (all_cons (by k_extra "mm") (all_cons (by k_extra "mm") (List.forall_mem_append.mpr ⟨all_cons (by k_extra "mm") (all_cons (by k_extra "mm") (fun q hq => by k_extra "mm")), all_cons (by k_extra "mm") (all_cons (by k_extra "mm") (all_cons (by k_extra "mm") (all_cons (by k_extra "mm") (all_cons (by k_extra "mm") (all_cons (by k_extra "mm") (all_cons (by k_extra "mm") (all_cons (by k_extra "mm") (all_cons (by k_extra "mm") (fun _ h => nomatch h)))))))))⟩)))
  have hkn : ∀ p ∈ kp, p.1 ≠ 168 ∧ p.1 ≠ lL ∧ p.1 ≠ lR := by
    rw [hkp]
    have g1 : @LT.lt Nat _ L' f2 := Nat.lt_trans (Nat.lt_succ_of_lt (Nat.lt_succ_self _)) (Nat.lt_trans hdTL (Nat.lt_trans hdAT (Nat.lt_trans hc1A (Nat.lt_trans hf1 (Nat.lt_trans hc2 hf2)))))
    have g2 := Nat.lt_trans g1 hlL
    have g3 := Nat.lt_trans g2 hlR
    have g4 := Nat.lt_trans g3 hsl1
    have g5 := Nat.lt_trans hlR hsl1
    refine all_cons ⟨Nat.ne_of_gt (Nat.lt_trans h168 (Nat.lt_trans g4 hsT)), Nat.ne_of_gt (Nat.lt_trans g5 hsT), Nat.ne_of_gt (Nat.lt_trans hsl1 hsT)⟩ (all_cons ⟨Nat.ne_of_gt (Nat.lt_trans h168 g4), Nat.ne_of_gt g5, Nat.ne_of_gt hsl1⟩ (fun p hp => ?_))
    have h1 := hgt p hp
    exact ⟨(hown p hp).2, Nat.ne_of_lt (Nat.lt_trans h1 g2), Nat.ne_of_lt (Nat.lt_trans h1 g3)⟩
  have hl1 : @LT.lt Nat _ 168 lL := Nat.lt_trans h168 (Nat.lt_trans (Nat.lt_trans (Nat.lt_succ_of_lt (Nat.lt_succ_self _)) (Nat.lt_trans hdTL (Nat.lt_trans hdAT (Nat.lt_trans hc1A (Nat.lt_trans hf1 (Nat.lt_trans hc2 hf2)))))) hlL)
  have hl2 : @LT.lt Nat _ 168 lR := Nat.lt_trans hl1 hlR
  refine tuple_S (items := [.ref sl, .ref lc]) (T := tp) (oT := { cls := .type "tuple", data := .seq #[.ref sl, .ref lc] }) (JR w dT dA fix amb2 amb3 (fun m => RdOk aheadL [A1, A2, A3] m ∧ 2 ≤ readingsL aheadL [A1, A2, A3] m) (fun m => RdOk restL [A1, A2, A3] m ∧ 2 ≤ readingsL restL [A1, A2, A3] m) c1 c2 lL lR kp _) rfl (by k_extra "own") B' D' FW NW2 (by rw [hkp]; simp) rfl ⟨_, rfl⟩ ⟨KeptK.refl _ _, _, ⟨#[], oT, oA, [], [], [], ?tab0, hsT0, hsA0, Nat.le_refl _, Nat.le_refl _, ?tak0, ?ask0, (fun _ h => nomatch h), rfl⟩, ?ap0, rfl⟩ ?keepT ?stepT ?doneT
  case tab0 => exact .inl rfl
  case tak0 => exact ⟨(fun _ h => nomatch h), (fun _ _ h => nomatch h)⟩
  case ask0 => exact fun _ _ h => nomatch h
  case ap0 =>
    rw [hkp, ← hfix]
    have u1 : @LT.lt Nat _ L' (L' + 1) := Nat.lt_succ_self _
    have u2 : @LT.lt Nat _ L' (L' + 1 + 1) := Nat.lt_succ_of_lt u1
    have u3 := Nat.lt_trans u2 hdTL
    have u4 := Nat.lt_trans u3 hdAT
    have u5 := Nat.lt_trans u4 hc1A
    have u6 := Nat.lt_trans u5 hf1
    have u7 := Nat.lt_trans u6 hc2
    have u8 := Nat.lt_trans u7 hf2
    have d7 := Nat.lt_trans hc2 hf2
    have d6 := Nat.lt_trans hf1 d7
    have d5 := Nat.lt_trans hc1A d6
    have d4 := Nat.lt_trans hdAT d5
    have d3 := Nat.lt_trans hdTL d4
    have d2 : @LT.lt Nat _ (L' + 1) f2 := Nat.lt_trans (Nat.lt_succ_self _) d3
    have hlo : ∀ p ∈ (dT, oT) :: (dA, oA) :: ([] ++ [(f2, fo2), (c2, oc2), (f1, fo1), (c1, oc1), (L' + 1 + 1, ocT), (L' + 1, ocA)]), @LT.lt Nat _ L' p.1 :=
      all_cons u3 (all_cons u4 (all_cons u8 (all_cons u7 (all_cons u6 (all_cons u5 (all_cons u2 (all_cons u1 (fun _ h => nomatch h))))))))
    have hup : ∀ p ∈ (57, tabObj #[]) :: (dT, oT) :: (dA, oA) :: ([] ++ [(f2, fo2), (c2, oc2), (f1, fo1), (c1, oc1), (L' + 1 + 1, ocT), (L' + 1, ocA)]), @LE.le Nat _ p.1 f2 :=
      all_cons (Nat.le_of_lt (Nat.lt_trans h57 u8)) (all_cons (Nat.le_of_lt d4) (all_cons (Nat.le_of_lt d5) (all_cons (Nat.le_refl _) (all_cons (Nat.le_of_lt hf2) (all_cons (Nat.le_of_lt d7) (all_cons (Nat.le_of_lt d6) (all_cons (Nat.le_of_lt d3) (all_cons (Nat.le_of_lt d2) (fun _ h => nomatch h)))))))))
    have hgo : ∀ {x : Addr}, @LT.lt Nat _ f2 x → ∀ p ∈ (57, tabObj #[]) :: (dT, oT) :: (dA, oA) :: ([] ++ [(f2, fo2), (c2, oc2), (f1, fo1), (c1, oc1), (L' + 1 + 1, ocT), (L' + 1, ocA)]), p.1 ≠ x := fun h p hp => Nat.ne_of_lt (Nat.lt_of_le_of_lt (hup p hp) h)
    have t2 := Nat.lt_trans hlL hlR
    have t3 := Nat.lt_trans t2 hsl1
    refine all_cons (hgo hlL) (all_cons (hgo t2) (all_cons ?_ (all_cons (hgo (Nat.lt_trans t3 hsT)) (all_cons (hgo t3) (fun q hq => ?_)))))
    · exact all_cons (show @Ne Nat 57 168 by decide) (fun p hp => Nat.ne_of_gt (Nat.lt_trans h168 (hlo p hp)))
    · exact all_cons (Ne.symm (hown q hq).1) (fun p hp => Nat.ne_of_gt (Nat.lt_trans (hgt q hq) (hlo p hp)))
  case keepT =>
    intro i m' led hJ
    rcases i with _ | _ | i
    · obtain ⟨zz1, b, zz2, zz3, zz4⟩ := hJ
      revert zz1 b zz2 zz3 zz4
      intro _ b _ _ zz4
      subst zz4
      rw [hkp]; simp
    · obtain ⟨zz5, b, k, r1, r2, e1, e2, v1, v2, q1, q2, qL, qR, c3, c4, oc3, oc4, zz6, zz7, zz8, zz9, zz10, zz11, zz12, zz13, zz14, zz15, zz16, zz17⟩ := hJ
      revert zz5 b k r1 r2 e1 e2 v1 v2 q1 q2 qL qR c3 c4 oc3 oc4 zz6 zz7 zz8 zz9 zz10 zz11 zz12 zz13 zz14 zz15 zz16 zz17
      intro _ b k r1 r2 e1 e2 v1 v2 q1 q2 qL qR c3 c4 oc3 oc4 _ _ _ _ _ _ _ _ _ _ _ zz17
      subst zz17
      rw [hkp]; simp
    · obtain ⟨zz18, tbl, b, k, r1, r2, r3, r4, e1, e2, e3, e4, v1, v2, v3, v4, q1, q2, q3, q4, qL, qR, zz19, zz20, zz21, zz22, zz23, zz24, zz25, zz26, zz27, zz28, zz29, zz30⟩ := hJ
      revert zz18 tbl b k r1 r2 r3 r4 e1 e2 e3 e4 v1 v2 v3 v4 q1 q2 q3 q4 qL qR zz19 zz20 zz21 zz22 zz23 zz24 zz25 zz26 zz27 zz28 zz29 zz30
      intro _ tbl b k r1 r2 r3 r4 e1 e2 e3 e4 v1 v2 v3 v4 q1 q2 q3 q4 qL qR _ _ _ _ _ _ _ _ _ _ _ zz30
      subst zz30
      rw [hkp]; simp
  case doneT =>
    intro g2 h2 tk2 m2 led hJ T2 B2 D2 F4 N4
    obtain ⟨hk0, tbl, b, k, r1, r2, r3, r4, e1, e2, e3, e4, v1, v2, v3, v4, q1, q2, q3, q4, qL, qR, hI0, hkk, z8, y8, x8, y8', z2, y2, x2, y2', hap0, zz31⟩ := hJ
    revert hk0 tbl b k r1 r2 r3 r4 e1 e2 e3 e4 v1 v2 v3 v4 q1 q2 q3 q4 qL qR hI0 hkk z8 y8 x8 y8' z2 y2 x2 y2' hap0 zz31
    intro hk0 tbl b k r1 r2 r3 r4 e1 e2 e3 e4 v1 v2 v3 v4 q1 q2 q3 q4 qL qR hI0 hkk z8 y8 x8 y8' z2 y2 x2 y2' hap0 zz31
    subst zz31
    have F5 := fr_to F4 (mapK_eq hk0)
    dsimp only [mapK] at F5
    have hmc : (lc, W.listOf #[.str (tx A1) ta, .str (tx A2) tb, .str (tx A3) tc] cc) ∈ kp := by rw [hkp]; simp [hc]
    exact right_end w (top := (lL, W.listOf #[.ref r1, .ref r3] qL) :: (lR, W.listOf #[.ref r2, .ref r4] qR) :: (168, tabObj tbl) :: (r4, W.listOf v4.toArray q4) :: (r3, W.listOf v3.toArray q3) :: (r2, W.listOf v2.toArray q2) :: (r1, W.listOf v1.toArray q1) :: kp) B2 (X.keeps B2.stays) (T.keeps B2.stays) (C1.keeps B2.stays) (C2.keeps B2.stays) hd hu K hRL hRR hI0 hkk hap0 z8 y8 x8 y8' z2 y2 x2 y2' (.tail _ (.tail _ (.tail _ (.tail _ (.tail _ (.tail _ (.tail _ (hmc)))))))) (.head _) (.tail _ (.head _)) (.tail _ (.tail _ (.tail _ (.tail _ (.tail _ (.tail _ (.head _))))))) (.tail _ (.tail _ (.tail _ (.tail _ (.tail _ (.head _)))))) (.tail _ (.tail _ (.tail _ (.tail _ (.head _))))) (.tail _ (.tail _ (.tail _ (.head _)))) (by rw [← hfix]; simp) hcT (by rw [← hfix]; simp) hcA loT loA (fr_to F5 (fun _ => by with_unfolding_all rfl)) N4 (by k_extra "own")
      fun h' tk' m' n' F9 N9 z9 z10 => ⟨g2, L', m', n', T2, F9, N9, fun h'' p1 p2 p3 p4 p5 => hret h'' _ _ _ _ p1 p4 p5 p2 p3 ⟨rfl, z10, tbl, z9 _ (.tail _ (.tail _ (.head _)))⟩⟩
  case stepT =>
    refine cl10 ?_; generalize cl10_1 _ _ = i, cl10_2 _ _ = v, cl10_3 _ _ = g2, cl10_4 _ _ = h2, cl10_5 _ _ = tk2, cl10_6 _ _ = I, cl10_7 _ _ = oI, cl10_8 _ _ = m2, cl10_9 _ _ = led, cl10_10 _ _ = Q12
    rintro hv hJ hoff T2 B2 D2 F4 N4 hQ12
    have X2 := X.keeps B2.stays
    have TT2 := T.keeps B2.stays
    have C12 := C1.keeps B2.stays
    have C22 := C2.keeps B2.stays
    rcases i with _ | _ | i
    case zero =>
      obtain ⟨hk0, b, hI0, hap0, zz32⟩ := hJ
      revert hk0 b hI0 hap0 zz32
      intro hk0 b hI0 hap0 zz32
      subst zz32
      obtain rfl : v = .ref sl := by simpa using hv.symm
      have F5 := fr_to F4 (mapK_eq hk0)
      clear F4 X' T' C1' C2' B' NW NW2
      dsimp only [mapK] at F5
      have n1 : ∀ p ∈ kp ++ b, p.1 ≠ 168 := fun p hp => (List.mem_append.mp hp).elim (fun h => (hkn p h).1) (fun h => hap0 (168, tabObj (TAB2 c1 c2)) (by first | k_extra "mm" | simp) p h)
      have n2 : ∀ p ∈ kp ++ b, p.1 ≠ lL := fun p hp => (List.mem_append.mp hp).elim (fun h => (hkn p h).2.1) (fun h => hap0 (lL, W.listOf #[] 0) (by first | k_extra "mm" | simp) p h)
      have n3 : ∀ p ∈ kp ++ b, p.1 ≠ lR := fun p hp => (List.mem_append.mp hp).elim (fun h => (hkn p h).2.2) (fun h => hap0 (lR, W.listOf #[] 0) (by first | k_extra "mm" | simp) p h)
      have hI1 : @Ne Nat I 168 := fun e => hoff (168, tabObj (TAB2 c1 c2)) (by first | k_extra "mm" | simp) e.symm
      have hI2 : @Ne Nat I lL := fun e => hoff (lL, W.listOf #[] 0) (by first | k_extra "mm" | simp) e.symm
      have hI3 : @Ne Nat I lR := fun e => hoff (lR, W.listOf #[] 0) (by first | k_extra "mm" | simp) e.symm
      k_steps
      rename_i g3 c3 oc3 vs3 tq3 ct3 h3 _ F6 N6 hd3 hv3 l3c l3f
      obtain ⟨og, N6, hY⟩ : ∃ og, News g2 L' h3 (((g3, og) :: (c3, oc3) :: (I, oI) :: (lL, W.listOf #[] 0) :: (lR, W.listOf #[] 0) :: (168, tabObj (TAB2 c1 c2 ++ #[rawInt ((296 : Nat) : Int), rawInt ((55 : Nat) : Int), Value.ref c3])) :: kp) ++ b) ∧ LayC w 870 g3 og (fun a b => a ++ 46 :: b) [(g3, og), (c3, oc3)] := by
        refine' ⟨_, ?nn, ?yy⟩
        case nn => exact N6
        case yy => exact layL w g3 c3 oc3 vs3 tq3 _ _ _ _ _ _ _ _ _ _ _ hd3 hv3
      revert og N6 hY
      intro og N6 hY
      have hq3 : lamQ c3 oc3 := ⟨vs3, tq3, hd3, by with_unfolding_all exact hv3⟩
      have hc3 : ∀ p ∈ kp ++ b, p.1 ≠ c3 ∧ p.1 ≠ g3 := fun p hp => by
        have := AllLt.mem l3c.2.2.2.2 p hp
        exact ⟨Nat.ne_of_lt this, Nat.ne_of_lt (Nat.lt_trans this l3f)⟩
      have l3c1 : @LT.lt Nat _ lL c3 := l3c.2.1
      have l3c2 : @LT.lt Nat _ lR c3 := l3c.2.2.1
      have l3c3 : @LT.lt Nat _ 168 c3 := l3c.2.2.2.1
      have l3c4 : @LT.lt Nat _ I c3 := l3c.1
      have l3g : @LT.lt Nat _ c3 g3 := l3f
      refine Stop.go ?_
      refine fn_useS (side_rounds (own := (g3, og) :: (c3, oc3) :: (I, oI) :: (lL, W.listOf #[] 0) :: (lR, W.listOf #[] 0) :: (168, tabObj (TAB2 c1 c2 ++ #[rawInt ((296 : Nat) : Int), rawInt ((55 : Nat) : Int), Value.ref c3])) :: kp) (cc := 0) (cvs := [.str (tx A1) ta, .str (tx A2) tb]) K.l2 hRL hY ?s1 (.cons ⟨_, rfl⟩ (.cons ⟨_, rfl⟩ .nil)) (Nat.le_succ 2) hI0 (by decide) ?s2 ?s3) B2 F6 N6 X T C1 C2 D2 (by rfl) (by k_extra "dep") (by k_extra "dep") ?_
      case s1 => rw [hkp]; simp
      case s2 =>
        refine all_cons ?_ (all_cons ?_ (all_cons ?_ (all_cons ?_ (all_cons ?_ (all_cons ?_ (fun q hq => ?_))))))
        · intro p hp
          exact (hc3 p (List.mem_append_right _ hp)).2
        · intro p hp
          exact (hc3 p (List.mem_append_right _ hp)).1
        · intro p hp
          exact hoff p (by first | k_extra "mm" | simp [hp])
        · intro p hp
          exact hap0 (lL, W.listOf #[] 0) (by first | k_extra "mm" | simp) p hp
        · intro p hp
          exact hap0 (lR, W.listOf #[] 0) (by first | k_extra "mm" | simp) p hp
        · intro p hp
          exact hap0 (168, tabObj (TAB2 c1 c2)) (by first | k_extra "mm" | simp) p hp
        · intro p hp
          exact hap0 q (by first | k_extra "mm" | simp [hq]) p hp
      case s3 => intro p hp; simp only [List.mem_cons, List.not_mem_nil, or_false] at hp ⊢; rcases hp with rfl | rfl <;> simp
      intro g4 r' n' h7 tk7 T4 B4 D4 F7 N7
      intro zz33
      obtain ⟨r1, e1, v1, q1, b2, k2, zz34, z2, z3, z4, z5, z6, zz35, z8⟩ := zz33
      revert r1 e1 v1 q1 b2 k2 zz34 z2 z3 z4 z5 z6 zz35 z8
      intro r1 e1 v1 q1 b2 k2 zz34 z2 z3 z4 z5 z6 zz35 z8
      subst zz34 zz35
      dsimp only [List.cons_append] at F7 N7 ⊢
      have X4 := X.keeps B4.stays
      have TT4 := T.keeps B4.stays
      have C14 := C1.keeps B4.stays
      have C24 := C2.keeps B4.stays
      clear X2 TT2 C12 C22 n1 n2 n3
      have r1a : @Ne Nat lL r1 := z6 (lL, W.listOf #[] 0) (by first | k_extra "mm" | simp)
      have r1b : @Ne Nat lR r1 := z6 (lR, W.listOf #[] 0) (by first | k_extra "mm" | simp)
      have r1c : @Ne Nat 168 r1 := z6 (168, tabObj (TAB2 c1 c2 ++ #[rawInt ((296 : Nat) : Int), rawInt ((55 : Nat) : Int), Value.ref c3])) (by first | k_extra "mm" | simp)
      have n1 : ∀ p ∈ kp ++ b2, p.1 ≠ 168 := fun p hp => (List.mem_append.mp hp).elim (fun h => (hkn p h).1) (fun h => z5 (168, tabObj (TAB2 c1 c2 ++ #[rawInt ((296 : Nat) : Int), rawInt ((55 : Nat) : Int), Value.ref c3])) (by first | k_extra "mm" | simp) p h)
      have n2 : ∀ p ∈ kp ++ b2, p.1 ≠ lL := fun p hp => (List.mem_append.mp hp).elim (fun h => (hkn p h).2.1) (fun h => z5 (lL, W.listOf #[] 0) (by first | k_extra "mm" | simp) p h)
      have n3 : ∀ p ∈ kp ++ b2, p.1 ≠ lR := fun p hp => (List.mem_append.mp hp).elim (fun h => (hkn p h).2.2) (fun h => z5 (lR, W.listOf #[] 0) (by first | k_extra "mm" | simp) p h)
      k_steps
      rename_i g5 c4 oc4 vs4 tq4 ct4 h5 _ F8 N8 hd4 hv4 l4c l4f
      obtain ⟨og5, N8, hY5⟩ : ∃ og5, News g4 L' h5 (((g5, og5) :: (c4, oc4) :: (r1, W.listOf v1.toArray q1) :: (g3, og) :: (c3, oc3) :: (I, oI) :: (lL, W.listOf #[.ref r1] (0 + 1)) :: (lR, W.listOf #[] 0) :: (168, tabObj (TAB4 c1 c2 c3 c4)) :: kp) ++ b2) ∧ LayC w 870 g5 og5 (fun a b => b ++ 46 :: a) [(g5, og5), (c4, oc4)] := by
        refine' ⟨_, ?nn, ?yy⟩
        case nn => exact N8
        case yy => exact layR w g5 c4 oc4 vs4 tq4 _ _ _ _ _ _ _ _ _ _ _ hd4 hv4
      revert og5 N8 hY5
      intro og5 N8 hY5
      have hq4 : lamQ c4 oc4 := ⟨vs4, tq4, hd4, by with_unfolding_all exact hv4⟩
      have hc4 : ∀ p ∈ kp ++ b2, p.1 ≠ c4 ∧ p.1 ≠ g5 := fun p hp => by
        have := AllLt.mem l4c.2.2.2.2.2.2.2 p hp
        exact ⟨Nat.ne_of_lt this, Nat.ne_of_lt (Nat.lt_trans this l4f)⟩
      have l4c1 : @LT.lt Nat _ r1 c4 := l4c.1
      have l4c2 : @LT.lt Nat _ c3 c4 := l4c.2.2.1
      have l4c3 : @LT.lt Nat _ I c4 := l4c.2.2.2.1
      have l4c4 : @LT.lt Nat _ lL c4 := l4c.2.2.2.2.1
      have l4c5 : @LT.lt Nat _ lR c4 := l4c.2.2.2.2.2.1
      have l4c6 : @LT.lt Nat _ 168 c4 := l4c.2.2.2.2.2.2.1
      have l4g : @LT.lt Nat _ c4 g5 := l4f
      refine Stop.go ?_
      refine fn_useS (side_rounds (own := (g5, og5) :: (c4, oc4) :: (r1, W.listOf v1.toArray q1) :: (g3, og) :: (c3, oc3) :: (I, oI) :: (lL, W.listOf #[.ref r1] (0 + 1)) :: (lR, W.listOf #[] 0) :: (168, tabObj (TAB4 c1 c2 c3 c4)) :: kp) (cc := 0) (cvs := [.str (tx A1) ta, .str (tx A2) tb]) K.r2 hRR hY5 ?s1 (.cons ⟨_, rfl⟩ (.cons ⟨_, rfl⟩ .nil)) (Nat.le_succ 2) z3 (by omega) ?s2 ?s3) B4 F8 N8 X T C1 C2 D4 (by rfl) (by k_extra "dep") (by k_extra "dep") ?_
      case s1 => rw [hkp]; simp
      case s2 =>
        refine all_cons ?_ (all_cons ?_ (all_cons ?_ (all_cons ?_ (all_cons ?_ (all_cons ?_ (all_cons ?_ (all_cons ?_ (all_cons ?_ (fun q hq => ?_)))))))))
        · intro p hp
          exact (hc4 p (List.mem_append_right _ hp)).2
        · intro p hp
          exact (hc4 p (List.mem_append_right _ hp)).1
        · intro p hp
          exact z5 (r1, W.listOf v1.toArray q1) (by first | k_extra "mm" | simp) p hp
        · intro p hp
          exact z5 (g3, og) (by first | k_extra "mm" | simp) p hp
        · intro p hp
          exact z5 (c3, oc3) (by first | k_extra "mm" | simp) p hp
        · intro p hp
          exact z5 (I, oI) (by first | k_extra "mm" | simp) p hp
        · intro p hp
          exact z5 (lL, W.listOf #[] 0) (by first | k_extra "mm" | simp) p hp
        · intro p hp
          exact z5 (lR, W.listOf #[] 0) (by first | k_extra "mm" | simp) p hp
        · intro p hp
          exact n1 p (List.mem_append_right _ hp)
        · intro p hp
          exact z5 q (by first | k_extra "mm" | simp [hq]) p hp
      case s3 => intro p hp; simp only [List.mem_cons, List.not_mem_nil, or_false] at hp ⊢; rcases hp with rfl | rfl <;> simp
      intro g6 r' n' h8 tk8 T6 B6 D6 F9 N9
      intro zz36
      obtain ⟨r2, e2, v2, q2, b3, k3, zz37, y2, y3, y4, y5, y6, zz38, y8⟩ := zz36
      revert r2 e2 v2 q2 b3 k3 zz37 y2 y3 y4 y5 y6 zz38 y8
      intro r2 e2 v2 q2 b3 k3 zz37 y2 y3 y4 y5 y6 zz38 y8
      subst zz37 zz38
      dsimp only [List.cons_append] at F9 N9 ⊢
      have X6 := X.keeps B6.stays
      have TT6 := T.keeps B6.stays
      have C16 := C1.keeps B6.stays
      have C26 := C2.keeps B6.stays
      clear X4 TT4 C14 C24 n1 n2 n3
      have r2a : @Ne Nat lL r2 := y6 (lL, W.listOf #[.ref r1] (0 + 1)) (by first | k_extra "mm" | simp)
      have r2b : @Ne Nat lR r2 := y6 (lR, W.listOf #[] 0) (by first | k_extra "mm" | simp)
      have r2c : @Ne Nat 168 r2 := y6 (168, tabObj (TAB4 c1 c2 c3 c4)) (by first | k_extra "mm" | simp)
      have r2d : @Ne Nat I r2 := y6 (I, oI) (by first | k_extra "mm" | simp)
      have r1d : @Ne Nat I r1 := z6 (I, oI) (by first | k_extra "mm" | simp)
      have n3 : ∀ p ∈ kp ++ b3, p.1 ≠ lR := fun p hp => (List.mem_append.mp hp).elim (fun h => (hkn p h).2.2) (fun h => y5 (lR, W.listOf #[] 0) (by first | k_extra "mm" | simp) p h)
      k_steps
      rename_i h9 F9 N9
      refine AgainS.next ((T2.trans T4).trans T6) B6 D6 F9 N9 ?b1 ?b2 ?b3 ⟨by k_extra "kept", b3, k3, r1, r2, e1, e2, v1, v2, q1, q2, 0 + 1, 0 + 1, c3, c4, oc3, oc4, y3, by omega, hq3, hq4, z8, y8, z2, y2, ?b4, ?b5, ?b6, rfl⟩
      case b1 => exact Sub.cons (by k_mem) (fun _ h => nomatch h)
      case b2 => k_extra "sub_my"
      case b3 =>
        refine all_cons ?_ (all_cons ?_ (all_cons ?_ (all_cons ?_ (all_cons ?_ (all_cons ?_ (all_cons ?_ (fun p hp => ?_)))))))
        · intro q hq
          rw [List.mem_singleton.mp hq]
          exact hI2.symm
        · intro q hq
          rw [List.mem_singleton.mp hq]
          exact hI3.symm
        · intro q hq
          rw [List.mem_singleton.mp hq]
          exact hI1.symm
        · intro q hq
          rw [List.mem_singleton.mp hq]
          exact Nat.ne_of_gt l3c4
        · intro q hq
          rw [List.mem_singleton.mp hq]
          exact Nat.ne_of_gt l4c3
        · intro q hq
          rw [List.mem_singleton.mp hq]
          exact r2d.symm
        · intro q hq
          rw [List.mem_singleton.mp hq]
          exact r1d.symm
        · intro q hq
          rw [List.mem_singleton.mp hq]
          rcases List.mem_append.mp hp with hp | hp
          · exact hoff p (by first | k_extra "mm" | simp [hp])
          · exact y5 (I, oI) (by first | k_extra "mm" | simp) p hp
      case b4 =>
        refine all_cons ?_ (all_cons ?_ (all_cons ?_ (all_cons ?_ (all_cons ?_ (fun p hp => ?_)))))
        · exact ⟨Nat.ne_of_lt hl1, Nat.ne_of_lt hl2⟩
        · exact ⟨Nat.ne_of_gt l3c1, Nat.ne_of_gt l3c2⟩
        · exact ⟨Nat.ne_of_gt l4c4, Nat.ne_of_gt l4c5⟩
        · exact ⟨r2a.symm, r2b.symm⟩
        · exact ⟨r1a.symm, r1b.symm⟩
        · exact (hkn p hp).2
      case b5 =>
        refine all_cons ?_ (all_cons ?_ (all_cons ?_ (all_cons ?_ (fun p hp => ?_))))
        · exact Nat.ne_of_gt l3c3
        · exact Nat.ne_of_gt l4c6
        · exact r2c.symm
        · exact r1c.symm
        · exact (hkn p hp).1
      case b6 =>
        refine all_cons ?_ (all_cons ?_ (all_cons ?_ (all_cons ?_ (all_cons ?_ (all_cons ?_ (all_cons ?_ (fun q hq => ?_)))))))
        · intro p hp
          exact y5 (lL, W.listOf #[.ref r1] (0 + 1)) (by first | k_extra "mm" | simp) p hp
        · intro p hp
          exact y5 (lR, W.listOf #[] 0) (by first | k_extra "mm" | simp) p hp
        · intro p hp
          exact y5 (168, tabObj (TAB4 c1 c2 c3 c4)) (by first | k_extra "mm" | simp) p hp
        · intro p hp
          exact y5 (c3, oc3) (by first | k_extra "mm" | simp) p hp
        · intro p hp
          exact y5 (c4, oc4) (by first | k_extra "mm" | simp) p hp
        · intro p hp
          exact y5 (r2, W.listOf v2.toArray q2) (by first | k_extra "mm" | simp) p hp
        · intro p hp
          exact y5 (r1, W.listOf v1.toArray q1) (by first | k_extra "mm" | simp) p hp
        · intro p hp
          exact y5 q (by first | k_extra "mm" | simp [hq]) p hp
    case succ.zero =>
      obtain ⟨hk0, b, k, r1, r2, e1, e2, v1, v2, q1, q2, qL, qR, c3, c4, oc3, oc4, hI0, hkk, hq3, hq4, z8, y8, z2, y2, hnl, hn168, hap0, zz39⟩ := hJ
      revert hk0 b k r1 r2 e1 e2 v1 v2 q1 q2 qL qR c3 c4 oc3 oc4 hI0 hkk hq3 hq4 z8 y8 z2 y2 hnl hn168 hap0 zz39
      intro hk0 b k r1 r2 e1 e2 v1 v2 q1 q2 qL qR c3 c4 oc3 oc4 hI0 hkk hq3 hq4 z8 y8 z2 y2 hnl hn168 hap0 zz39
      subst zz39
      obtain rfl : v = .ref lc := by simpa using hv.symm
      have F5 := fr_to F4 (mapK_eq hk0)
      clear F4 X' T' C1' C2' B' NW NW2
      dsimp only [mapK] at F5
      have n1 : ∀ p ∈ kp ++ b, p.1 ≠ 168 := fun p hp => (List.mem_append.mp hp).elim (fun h => (hkn p h).1) (fun h => hap0 (168, tabObj (TAB4 c1 c2 c3 c4)) (by first | k_extra "mm" | simp) p h)
      have n2 : ∀ p ∈ kp ++ b, p.1 ≠ lL := fun p hp => (List.mem_append.mp hp).elim (fun h => (hkn p h).2.1) (fun h => hap0 (lL, W.listOf #[.ref r1] qL) (by first | k_extra "mm" | simp) p h)
      have n3 : ∀ p ∈ kp ++ b, p.1 ≠ lR := fun p hp => (List.mem_append.mp hp).elim (fun h => (hkn p h).2.2) (fun h => hap0 (lR, W.listOf #[.ref r2] qR) (by first | k_extra "mm" | simp) p h)
      k_steps
      rename_i g3 ct3 h3 _ F6 N6 l3
      obtain ⟨vs3, tq3, hd3, hv3⟩ := hq3
      revert vs3 tq3 hd3 hv3
      intro vs3 tq3 hd3 hv3
      obtain ⟨vs4, tq4, hd4, hv4⟩ := hq4
      revert vs4 tq4 hd4 hv4
      intro vs4 tq4 hd4 hv4
      obtain ⟨og, N6, hY⟩ : ∃ og, News g2 L' h3 (((g3, og) :: (I, oI) :: (lL, W.listOf #[.ref r1] qL) :: (lR, W.listOf #[.ref r2] qR) :: (168, tabObj (TAB4 c1 c2 c3 c4)) :: (c3, oc3) :: (c4, oc4) :: (r2, W.listOf v2.toArray q2) :: (r1, W.listOf v1.toArray q1) :: kp) ++ b) ∧ LayC w 870 g3 og (fun a b => a ++ 46 :: b) [(g3, og), (c3, oc3)] := by
        refine' ⟨_, ?nn, ?yy⟩
        case nn => exact N6
        case yy => exact layL w g3 c3 oc3 vs3 tq3 _ _ _ _ _ _ _ _ _ _ _ hd3 (by with_unfolding_all exact hv3)
      revert og N6 hY
      intro og N6 hY
      have hc3 : ∀ p ∈ kp ++ b, p.1 ≠ g3 := fun p hp => Nat.ne_of_lt (AllLt.mem l3.2.2.2.2.2.2.2.2 p hp)
      have l3a : @LT.lt Nat _ lL g3 := l3.2.1
      have l3b : @LT.lt Nat _ lR g3 := l3.2.2.1
      have l3c : @LT.lt Nat _ I g3 := l3.1
      have r1L := (hnl (r1, W.listOf v1.toArray q1) (by first | k_extra "mm" | simp))
      have r2L := (hnl (r2, W.listOf v2.toArray q2) (by first | k_extra "mm" | simp))
      have c3L := (hnl (c3, oc3) (by first | k_extra "mm" | simp))
      have c4L := (hnl (c4, oc4) (by first | k_extra "mm" | simp))
      have tL := (hnl (168, tabObj (TAB4 c1 c2 c3 c4)) (by first | k_extra "mm" | simp))
      have r1n : @Ne Nat r1 lL := r1L.1
      have r1m : @Ne Nat r1 lR := r1L.2
      have r2n : @Ne Nat r2 lL := r2L.1
      have r2m : @Ne Nat r2 lR := r2L.2
      have c3n : @Ne Nat c3 lL := c3L.1
      have c3m : @Ne Nat c3 lR := c3L.2
      have c4n : @Ne Nat c4 lL := c4L.1
      have c4m : @Ne Nat c4 lR := c4L.2
      have hI2 : @Ne Nat I lL := fun e => hoff (lL, W.listOf #[.ref r1] qL) (by first | k_extra "mm" | simp) e.symm
      have hI3 : @Ne Nat I lR := fun e => hoff (lR, W.listOf #[.ref r2] qR) (by first | k_extra "mm" | simp) e.symm
      refine Stop.go ?_
      refine fn_useS (side_rounds (own := (g3, og) :: (I, oI) :: (lL, W.listOf #[.ref r1] qL) :: (lR, W.listOf #[.ref r2] qR) :: (168, tabObj (TAB4 c1 c2 c3 c4)) :: (c3, oc3) :: (c4, oc4) :: (r2, W.listOf v2.toArray q2) :: (r1, W.listOf v1.toArray q1) :: kp) (cc := cc) (cvs := [.str (tx A1) ta, .str (tx A2) tb, .str (tx A3) tc]) K.l3 hRL hY ?s1 (.cons ⟨_, rfl⟩ (.cons ⟨_, rfl⟩ (.cons ⟨_, rfl⟩ .nil))) (Nat.le_refl 3) hI0 (by omega) ?s2 ?s3) B2 F6 N6 X T C1 C2 D2 (by rfl) (by k_extra "dep") (by k_extra "dep") ?_
      case s1 => rw [hkp]; simp [hc]
      case s2 =>
        refine all_cons ?_ (all_cons ?_ (fun q hq => ?_))
        · intro p hp
          exact hc3 p (List.mem_append_right _ hp)
        · intro p hp
          exact hoff p (by first | k_extra "mm" | simp [hp])
        · intro p hp
          exact hap0 q hq p hp
      case s3 => intro p hp; simp only [List.mem_cons, List.not_mem_nil, or_false] at hp ⊢; rcases hp with rfl | rfl <;> simp
      intro g4 r' n' h7 tk7 T4 B4 D4 F7 N7
      intro zz40
      obtain ⟨r3, e3, v3, q3, b2, k2, zz41, x2, x3, x4, x5, x6, zz42, x8⟩ := zz40
      revert r3 e3 v3 q3 b2 k2 zz41 x2 x3 x4 x5 x6 zz42 x8
      intro r3 e3 v3 q3 b2 k2 zz41 x2 x3 x4 x5 x6 zz42 x8
      subst zz41 zz42
      dsimp only [List.cons_append] at F7 N7 ⊢
      have X4 := X.keeps B4.stays
      have TT4 := T.keeps B4.stays
      have C14 := C1.keeps B4.stays
      have C24 := C2.keeps B4.stays
      clear X2 TT2 C12 C22 n1 n2 n3
      have r3a : @Ne Nat lL r3 := x6 (lL, W.listOf #[.ref r1] qL) (by first | k_extra "mm" | simp)
      have r3b : @Ne Nat lR r3 := x6 (lR, W.listOf #[.ref r2] qR) (by first | k_extra "mm" | simp)
      have r3d : @Ne Nat I r3 := x6 (I, oI) (by first | k_extra "mm" | simp)
      have n1 : ∀ p ∈ kp ++ b2, p.1 ≠ 168 := fun p hp => (List.mem_append.mp hp).elim (fun h => (hkn p h).1) (fun h => x5 (168, tabObj (TAB4 c1 c2 c3 c4)) (by first | k_extra "mm" | simp) p h)
      have n2 : ∀ p ∈ kp ++ b2, p.1 ≠ lL := fun p hp => (List.mem_append.mp hp).elim (fun h => (hkn p h).2.1) (fun h => x5 (lL, W.listOf #[.ref r1] qL) (by first | k_extra "mm" | simp) p h)
      have n3 : ∀ p ∈ kp ++ b2, p.1 ≠ lR := fun p hp => (List.mem_append.mp hp).elim (fun h => (hkn p h).2.2) (fun h => x5 (lR, W.listOf #[.ref r2] qR) (by first | k_extra "mm" | simp) p h)
      k_steps
      rename_i g5 ct5 h5 _ F8 N8 l5
      obtain ⟨og5, N8, hY5⟩ : ∃ og5, News g4 L' h5 (((g5, og5) :: (r3, W.listOf v3.toArray q3) :: (g3, og) :: (I, oI) :: (lL, W.listOf #[.ref r1, .ref r3] (qL + 1)) :: (lR, W.listOf #[.ref r2] qR) :: (168, tabObj (TAB4 c1 c2 c3 c4)) :: (c3, oc3) :: (c4, oc4) :: (r2, W.listOf v2.toArray q2) :: (r1, W.listOf v1.toArray q1) :: kp) ++ b2) ∧ LayC w 870 g5 og5 (fun a b => b ++ 46 :: a) [(g5, og5), (c4, oc4)] := by
        refine' ⟨_, ?nn, ?yy⟩
        case nn => exact N8
        case yy => exact layR w g5 c4 oc4 vs4 tq4 _ _ _ _ _ _ _ _ _ _ _ hd4 (by with_unfolding_all exact hv4)
      revert og5 N8 hY5
      intro og5 N8 hY5
      have hc5 : ∀ p ∈ kp ++ b2, p.1 ≠ g5 := fun p hp => Nat.ne_of_lt (AllLt.mem l5.2.2.2.2.2.2.2.2.2.2 p hp)
      refine Stop.go ?_
      refine fn_useS (side_rounds (own := (g5, og5) :: (r3, W.listOf v3.toArray q3) :: (g3, og) :: (I, oI) :: (lL, W.listOf #[.ref r1, .ref r3] (qL + 1)) :: (lR, W.listOf #[.ref r2] qR) :: (168, tabObj (TAB4 c1 c2 c3 c4)) :: (c3, oc3) :: (c4, oc4) :: (r2, W.listOf v2.toArray q2) :: (r1, W.listOf v1.toArray q1) :: kp) (cc := cc) (cvs := [.str (tx A1) ta, .str (tx A2) tb, .str (tx A3) tc]) K.r3 hRR hY5 ?s1 (.cons ⟨_, rfl⟩ (.cons ⟨_, rfl⟩ (.cons ⟨_, rfl⟩ .nil))) (Nat.le_refl 3) x3 (by omega) ?s2 ?s3) B4 F8 N8 X T C1 C2 D4 (by rfl) (by k_extra "dep") (by k_extra "dep") ?_
      case s1 => rw [hkp]; simp [hc]
      case s2 =>
        refine all_cons ?_ (all_cons ?_ (all_cons ?_ (all_cons ?_ (all_cons ?_ (fun q hq => ?_)))))
        · intro p hp
          exact hc5 p (List.mem_append_right _ hp)
        · intro p hp
          exact x5 (r3, W.listOf v3.toArray q3) (by first | k_extra "mm" | simp) p hp
        · intro p hp
          exact x5 (g3, og) (by first | k_extra "mm" | simp) p hp
        · intro p hp
          exact x5 (I, oI) (by first | k_extra "mm" | simp) p hp
        · intro p hp
          exact n2 p (List.mem_append_right _ hp)
        · intro p hp
          exact x5 q (by k_extra "mm") p hp
      case s3 => intro p hp; simp only [List.mem_cons, List.not_mem_nil, or_false] at hp ⊢; rcases hp with rfl | rfl <;> simp
      intro g6 r' n' h8 tk8 T6 B6 D6 F9 N9
      intro zz43
      obtain ⟨r4, e4, v4, q4, b3, k3, zz44, y2', y3, y4, y5, y6, zz45, y8'⟩ := zz43
      revert r4 e4 v4 q4 b3 k3 zz44 y2' y3 y4 y5 y6 zz45 y8'
      intro r4 e4 v4 q4 b3 k3 zz44 y2' y3 y4 y5 y6 zz45 y8'
      subst zz44 zz45
      dsimp only [List.cons_append] at F9 N9 ⊢
      have X6 := X.keeps B6.stays
      have TT6 := T.keeps B6.stays
      have C16 := C1.keeps B6.stays
      have C26 := C2.keeps B6.stays
      clear X4 TT4 C14 C24 n1 n2 n3
      have r4a : @Ne Nat lL r4 := y6 (lL, W.listOf #[.ref r1, .ref r3] (qL + 1)) (by first | k_extra "mm" | simp)
      have r4b : @Ne Nat lR r4 := y6 (lR, W.listOf #[.ref r2] qR) (by first | k_extra "mm" | simp)
      have r4d : @Ne Nat I r4 := y6 (I, oI) (by first | k_extra "mm" | simp)
      have l5b : @LT.lt Nat _ lR g5 := l5.2.2.2.2.1
      have n3 : ∀ p ∈ kp ++ b3, p.1 ≠ lR := fun p hp => (List.mem_append.mp hp).elim (fun h => (hkn p h).2.2) (fun h => y5 (lR, W.listOf #[.ref r2] qR) (by first | k_extra "mm" | simp) p h)
      k_steps
      rename_i h9 F9 N9
      refine AgainS.next ((T2.trans T4).trans T6) B6 D6 F9 N9 ?b1 ?b2 ?b3 ⟨by k_extra "kept", TAB4 c1 c2 c3 c4, b3, k3, r1, r2, r3, r4, e1, e2, e3, e4, v1, v2, v3, v4, q1, q2, q3, q4, qL + 1, qR + 1, y3, by omega, z8, y8, x8, y8', z2, y2, x2, y2', ?b6, rfl⟩
      case b1 => exact Sub.cons (by k_mem) (fun _ h => nomatch h)
      case b2 => k_extra "sub_my"
      case b3 =>
        refine all_cons ?_ (all_cons ?_ (all_cons ?_ (all_cons ?_ (all_cons ?_ (all_cons ?_ (all_cons ?_ (fun p hp => ?_)))))))
        · intro q hq
          rw [List.mem_singleton.mp hq]
          exact hI2.symm
        · intro q hq
          rw [List.mem_singleton.mp hq]
          exact hI3.symm
        · intro q hq
          rw [List.mem_singleton.mp hq]
          exact hoff (168, tabObj (TAB4 c1 c2 c3 c4)) (by first | k_extra "mm" | simp)
        · intro q hq
          rw [List.mem_singleton.mp hq]
          exact r4d.symm
        · intro q hq
          rw [List.mem_singleton.mp hq]
          exact r3d.symm
        · intro q hq
          rw [List.mem_singleton.mp hq]
          exact hoff (r2, W.listOf v2.toArray q2) (by first | k_extra "mm" | simp)
        · intro q hq
          rw [List.mem_singleton.mp hq]
          exact hoff (r1, W.listOf v1.toArray q1) (by first | k_extra "mm" | simp)
        · intro q hq
          rw [List.mem_singleton.mp hq]
          rcases List.mem_append.mp hp with hp | hp
          · exact hoff p (by first | k_extra "mm" | simp [hp])
          · exact y5 (I, oI) (by first | k_extra "mm" | simp) p hp
      case b6 =>
        refine all_cons ?_ (all_cons ?_ (all_cons ?_ (all_cons ?_ (all_cons ?_ (all_cons ?_ (all_cons ?_ (fun q hq => ?_)))))))
        · intro p hp
          exact y5 (lL, W.listOf #[.ref r1, .ref r3] (qL + 1)) (by first | k_extra "mm" | simp) p hp
        · intro p hp
          exact y5 (lR, W.listOf #[.ref r2] qR) (by first | k_extra "mm" | simp) p hp
        · intro p hp
          exact y5 (168, tabObj (TAB4 c1 c2 c3 c4)) (by first | k_extra "mm" | simp) p hp
        · intro p hp
          exact y5 (r4, W.listOf v4.toArray q4) (by first | k_extra "mm" | simp) p hp
        · intro p hp
          exact y5 (r3, W.listOf v3.toArray q3) (by first | k_extra "mm" | simp) p hp
        · intro p hp
          exact y5 (r2, W.listOf v2.toArray q2) (by first | k_extra "mm" | simp) p hp
        · intro p hp
          exact y5 (r1, W.listOf v1.toArray q1) (by first | k_extra "mm" | simp) p hp
        · intro p hp
          exact y5 q (by first | k_extra "mm" | simp [hq]) p hp
    case succ.succ => simp at hv
theorem main (hc : (lc, W.listOf #[.str (tx A1) ta, .str (tx A2) tb, .str (tx A3) tc] cc) ∈ own) (hown : ∀ p ∈ own, p.1 ≠ 57 ∧ p.1 ≠ 168) (K : LawOk A1 A2 A3 msg amb2 amb3) : FnSG w 800 171 [.ref lc, .str (tx msg) tm] ((57, tabObj #[]) :: (168, tabObj #[]) :: own) (fun r n' => r = .bool true ∧ (∃ ps, (57, tabObj ps) ∈ n') ∧ ∃ ps, (168, tabObj ps) ∈ n') p loose mean mg mb dp un gd cn cs a ccd cl outer A₀ base h₀ L m s Q E := by
  intro B F N X T C1 C2 D hk hd hu hret
  refine wpAny_call ?_
  with_unfolding_all refine' code_myS (binds := [(PySem.Str.ofString "code", .ref lc), (PySem.Str.ofString "message", .str (tx msg) tm)]) B F N X T D ?kA ?kF ?kK ?ko ?est ?kcd ?kroom ?kbind ?kloc ?knd (fun g₁ l₁ h₁ t₁ => pick_all evne (P := fun e => BH e.g e.l e.h e.t) ?bd ⟨g₁, l₁, h₁, t₁⟩) ?kco ?kgen ?kkind
  (case kA => exact rfl)
  (case kF => exact rfl)
  (case kK => exact hk)
  (case ko => k_is)
  (case est => exact rfl)
  (case kcd => k_is)
  (case kroom => (show dp < 1000; omega))
  (case kbind => exact BindsTo.of_eq rfl)
  (case kloc => exact kindsX rfl)
  (case knd => decide +kernel)
  (case kco => exact rfl)
  (case kgen => exact rfl)
  (case kkind => exact rfl)
  (case bd => with_unfolding_all exact body hc hown K B X T C1 C2 D hk hd hu hret)
theorem goal_q : Goal q := by with_unfolding_all exact main
end Kright
theorem right (w : World) (lc : Addr) (cc : Nat) (A1 A2 A3 : List Nat) (ta tb tc : Tok) (msg : List Nat) (tm : Tok) (own : Led)
    (hc : (lc, W.listOf #[.str (tx A1) ta, .str (tx A2) tb, .str (tx A3) tc] cc) ∈ own) (hown : ∀ p ∈ own, p.1 ≠ 57 ∧ p.1 ≠ 168) (amb2 amb3 : Prop) (K : LawOk A1 A2 A3 msg amb2 amb3) :
    FnS w 800 171 [.ref lc, .str (tx msg) tm] ((57, tabObj #[]) :: (168, tabObj #[]) :: own) (fun r n' => r = .bool true ∧ (∃ ps, (57, tabObj ps) ∈ n') ∧ ∃ ps, (168, tabObj ps) ∈ n') := by
  exact fun p loose mean mg mb dp un gd cn cs a ccd cl outer A₀ base h₀ L m s Q E => pick_all Kright.ne (P := Kright.Goal) Kright.goal_q ⟨w, lc, cc, A1, A2, A3, ta, tb, tc, msg, tm, own, amb2, amb3, p, loose, mean, mg, mb, dp, un, gd, cn, cs, a, ccd, cl, outer, A₀, base, h₀, L, m, s, Q, E⟩ hc hown K
end S_FRi
section S_FLb
local macro_rules | `(tactic| walk_at $s:str) => if s.getString ∈ ["CompSrc", "call ref", "subscriptTail List"] then `(tactic| (refine Stop.mk ?_)) else Lean.Macro.throwUnsupported
local macro_rules | `(tactic| walk_at "callWith ref") => `(tactic| (refine' callWith_F ?k1 ?_; (case k1 => k_dflt (exact FnAt.of (by k_asm) (by k_mem)))))
theorem enter_law {M : Model} {A : Around} {L fa : Addr} {cd : Value} {E : Value → Shared → Prop} {Q : Flow → Shared → Prop} {s : Shared} {nm bd : PySem.Str} {ar : Arguments} {sc : Scope} {st : Stmt} {rest : List Stmt} {dl : List Expr} {rt : Option Expr} {tps : List TypeParam} {tsc : Option Scope} {ps : Pos} (e : stm 29 = .FunctionDef nm ar (st :: rest) dl rt tps sc tsc bd ps)
    (h : wpAny M (A.deeper (envOfC nm sc L fa cd)) (execs (st :: rest) (envOfC nm sc L fa cd)) Q E s) : wpAny M (A.deeper (envOfC (fdName (stm 29)) (fdScope (stm 29)) L fa cd)) (execs (fdBody (stm 29)) (envOfC (fdName (stm 29)) (fdScope (stm 29)) L fa cd)) Q E s := by
  rw [e]; exact h
noncomputable def IntV (n : Nat) (v : Value) : Prop := ∃ t, v = .int ((n : Nat) : Int) t
noncomputable def md (n : Int) : Nat := (n % 100000000).toNat
theorem md_lt (n : Int) : md n < 100000000 := by
  have := Int.emod_lt_of_pos n (show (0 : Int) < 100000000 by decide)
  have := Int.emod_nonneg n (show (100000000 : Int) ≠ 0 by decide)
  unfold md
  omega
theorem five {ks : List Nat} {vs : List Value} (h : F2 IntV ks vs) (hl : ks.length = 5) (hb : ∀ k ∈ ks, k < 100000000) : ∃ n0 n1 n2 n3 n4 t0 t1 t2 t3 t4, vs = [.int ((n0 : Nat) : Int) t0, .int ((n1 : Nat) : Int) t1, .int ((n2 : Nat) : Int) t2, .int ((n3 : Nat) : Int) t3, .int ((n4 : Nat) : Int) t4] ∧ n0 < 100000000 ∧ n1 < 100000000 ∧ n2 < 100000000 ∧ n3 < 100000000 ∧ n4 < 100000000 := by
  rcases h with _ | ⟨⟨t0, rfl⟩, h⟩
  · simp at hl
  rcases h with _ | ⟨⟨t1, rfl⟩, h⟩
  · simp at hl
  rcases h with _ | ⟨⟨t2, rfl⟩, h⟩
  · simp at hl
  rcases h with _ | ⟨⟨t3, rfl⟩, h⟩
  · simp at hl
  rcases h with _ | ⟨⟨t4, rfl⟩, h⟩
  · simp at hl
  rcases h with _ | ⟨_, h⟩
  · exact ⟨_, _, _, _, _, t0, t1, t2, t3, t4, rfl, hb _ (by first | k_extra "mm" | simp), hb _ (by first | k_extra "mm" | simp), hb _ (by first | k_extra "mm" | simp), hb _ (by first | k_extra "mm" | simp), hb _ (by first | k_extra "mm" | simp)⟩
  · simp at hl
section
open PyProof.Rows.LCg PyProof.Rows.LCt
variable {prog : Program} {w : World} {A : Around} {E : Value → Shared → Prop} {s : Shared} {h₀ : Heap} {L r : Addr} {m : PySem.Str → Option Value} {news : Led} {env : Env} {elt : Expr} {x : PySem.Str} {scope : Scope} {cl : List (PySem.Str × Addr)} {Fin : Shared → List Value → Led → Prop} {b : Int} {t u v : Tok}
theorem comp_range (n : Nat) (J : Nat → List Value → Prop) (hh : A.handled = none) (F : Fr h₀ L s.heap m) (N : News h₀ L s.heap news) (hr : IsRange s.heap r 0 b 1 t u v) (hb : b = ((n : Nat) : Int)) (hl : n ≤ 100000) (j0 : J 0 [])
    (step : ∀ i ys I oI C oC D m₂ h g tk (E' : Value → Shared → Prop), i < n → J i ys → NsObj oC m₂ → (∃ t, m₂ x = some (.int ((i : Nat) : Int) t)) → Fr h₀ L h m → News h₀ L h ((I, oI) :: (C, oC) :: (D, lst ys) :: news) →
      wpAny (model prog w) A (eval elt (compEnvC scope cl C env)) (EEnd h₀ L { s with heap := g } m ((I, oI) :: (C, oC) :: (D, lst ys) :: news) (fun y => J (i + 1) (ys ++ [y]))) E' { s with heap := h, toks := tk })
    (fin : ∀ g ys, J n ys → Fin { s with heap := g } ys news) : CompSrc prog w A h₀ L m env elt x scope cl Fin (.ref r) s := by
  refine CompSrc.range (n := n) hh F N hr (small_one (by omega) (by omega) (by omega) (by omega)) (by rw [rangeSize_nat]; omega) (le_sizeLine (by omega)) fun g => ?_
  refine compRest_inv J ?_ (fun ys hj => fin g ys hj) _ 0 [] (Nat.zero_add _) j0
  intro i ys v I oI C oC D m₂ h tk E' hi hj hP ho hx F' N' off ne
  obtain ⟨t, rfl⟩ := hP
  refine wpAny_mono (step i ys I oI C oC D m₂ h g tk E' hi hj ho ⟨t, by rw [hx, Int.zero_add]⟩ F' N') (fun y s₂ h1 => ?_) fun _ _ e => e
  obtain ⟨hy, h', tk', rfl, F2', N2'⟩ := h1
  exact ⟨h', tk', news, rfl, F2', N2', off, trivial, rfl, hy⟩
end
theorem News.sub' {h₀ h : Heap} {L : Addr} {a b : Led} (N : News h₀ L h a) (S : ∀ p ∈ b, p ∈ a) : News h₀ L h b := fun p hp => N p (S p hp)
noncomputable def pl (k i : Nat) : Nat := k / 2 / 3 ^ i % 3
theorem pl_eq (k i : Nat) : ((((k : Nat) : Int).fdiv 2).fdiv ((3 : Int) ^ i)).fmod 3 = ((pl k i : Nat) : Int) := by
  have h3 : (0 : Int) ≤ (3 : Int) ^ i := Int.pow_nonneg (show (0 : Int) ≤ 3 by decide)
  rw [Int.fdiv_eq_ediv_of_nonneg _ h3, Int.fdiv_eq_ediv_of_nonneg _ (by decide), Int.fmod_eq_emod_of_nonneg _ (by decide)]
  unfold pl
  norm_cast
noncomputable def pk (a1 a2 a3 : List Nat) : Nat → List Nat
  | 0 => a1
  | 1 => a2
  | _ => a3
theorem pk_mem (a1 a2 a3 : List Nat) : ∀ i, pk a1 a2 a3 i ∈ [a1, a2, a3]
  | 0 => .head _
  | 1 => .tail _ (.head _)
  | _ + 2 => .tail _ (.tail _ (.head _))
theorem pk_at (a1 a2 a3 : List Nat) (u1 u2 u3 : Tok) : ∀ i, i < 3 → ∃ u, ItemAt #[.str (tx (enc a1)) u1, .str (tx (enc a2)) u2, .str (tx (enc a3)) u3] ((i : Nat) : Int) (.str (tx (enc (pk a1 a2 a3 i))) u)
  | 0, _ => ⟨u1, Nat.le_of_ble_eq_true rfl, .inl ⟨by decide, rfl⟩⟩
  | 1, _ => ⟨u2, Nat.le_of_ble_eq_true rfl, .inl ⟨by decide, rfl⟩⟩
  | 2, _ => ⟨u3, Nat.le_of_ble_eq_true rfl, .inl ⟨by decide, rfl⟩⟩
theorem join_flat : ∀ (ps : List (List Nat)), (∀ p ∈ ps, p ≠ []) → joinWith [46] (ps.map enc) = enc ps.flatten
  | [], _ => rfl
  | [x], _ => by simp [joinWith]
  | x :: y :: r, h => by
    have hy : (y :: r).flatten ≠ [] := by
      have := h y (by first | k_extra "mm" | simp)
      cases y with
      | nil => exact absurd rfl this
      | cons c y => simp
    show enc x ++ ([46] ++ joinWith [46] ((y :: r).map enc)) = _
    rw [join_flat (y :: r) fun p hp => h p (.tail _ hp)]
    exact enc_append x _ (h x (by first | k_extra "mm" | simp)) hy
theorem f2_three {x y z : List Nat} {vs : List Value} (h : F2 TxtV [x, y, z] vs) : ∃ u1 u2 u3, vs = [.str (tx x) u1, .str (tx y) u2, .str (tx z) u3] := by
  rcases h with _ | ⟨⟨u1, rfl⟩, _ | ⟨⟨u2, rfl⟩, _ | ⟨⟨u3, rfl⟩, _ | _⟩⟩⟩
  exact ⟨u1, u2, u3, rfl⟩
theorem rsnoc {f : Nat → Nat} {n : Nat} {ys : List Value} {v : Value} (hj : F2 IntV ((List.range n).map f) ys) (h : IntV (f n) v) : F2 IntV ((List.range (n + 1)).map f) (ys ++ [v]) := by
  rw [List.range_succ, List.map_append]; exact hj.snoc h
namespace Klaw
abbrev Par : Type := (World) × (Program) × (List PySem.Str) × (ExcName → Option Value) × (PySem.Str → Option Value) × (PySem.Str → Option Value) × (Heap) × (Heap) × (Addr) × (Addr) × (Addr) × (Value) × (Shared) × (Nat) × (Flow → Shared → Prop) × (Value → Shared → Prop) × (Obj) × (Obj) × (List Value) × (List Int)
theorem ne : Nonempty Par := ⟨by refine ⟨?_, ?_, ?_, ?_, ?_, ?_, ?_, ?_, ?_, ?_, ?_, ?_, ?_, ?_, ?_, ?_, ?_, ?_, ?_, ?_⟩ <;> first | exact W0 | exact default | exact {} | exact FD0⟩
noncomputable def Goal : Par → Prop := fun e0 => (fun (w : World) (p : Program) (loose : List PySem.Str) (mean : ExcName → Option Value) (mg : PySem.Str → Option Value) (mb : PySem.Str → Option Value) (g : Heap) (h : Heap) (L : Addr) (fa : Addr) (ax : Addr) (cd : Value) (s : Shared) (tk : Nat) (Q : Flow → Shared → Prop) (E : Value → Shared → Prop) (o1 : Obj) (o2 : Obj) (items : List Value) (ns : List Int) => (B : Below callerA g [] g) → (X : (K0 w.params).In g) → (T : Top p loose mean mg mb g) → (C1 : CodeHd g 61 57) → (C2 : CodeHd g 170 168) → (hl : g.IsList ax items.toArray) → (hI : IntsAre items ns) → (hlen : ns.length ≤ 63) → (d1 : o1.data = .cell none) → (d2 : o2.data = .cell none) → (h57 : @LT.lt Nat _ 57 L) → (h168 : @LT.lt Nat _ 168 L) → (F : Fr g L h (fun x => if x = PySem.Str.ofString "script" then some (.ref ax) else none)) → (N : News g L h [(L + 1 + 1, o1), (L + 1, o2), (57, tabObj #[]), (168, tabObj #[])]) → (hE : PassesOwn (model P0 w) (callerA.deeper (envOfC (fdName (stm 29)) (fdScope (stm 29)) L fa cd)) (envOfC (fdName (stm 29)) (fdScope (stm 29)) L fa cd) E) → (ret : ∀ h' tk' m' n', Fr g L h' m' → News g L h' n' → (∃ ps, (57, tabObj ps) ∈ n') → (∃ ps, (168, tabObj ps) ∈ n') → Q (.ret (.bool true)) { s with heap := h', toks := tk' }) → wpAny (model P0 w) (callerA.deeper (envOfC (fdName (stm 29)) (fdScope (stm 29)) L fa cd)) (execs (fdBody (stm 29)) (envOfC (fdName (stm 29)) (fdScope (stm 29)) L fa cd)) Q E { s with heap := h, toks := tk }) e0.1 e0.2.1 e0.2.2.1 e0.2.2.2.1 e0.2.2.2.2.1 e0.2.2.2.2.2.1 e0.2.2.2.2.2.2.1 e0.2.2.2.2.2.2.2.1 e0.2.2.2.2.2.2.2.2.1 e0.2.2.2.2.2.2.2.2.2.1 e0.2.2.2.2.2.2.2.2.2.2.1 e0.2.2.2.2.2.2.2.2.2.2.2.1 e0.2.2.2.2.2.2.2.2.2.2.2.2.1 e0.2.2.2.2.2.2.2.2.2.2.2.2.2.1 e0.2.2.2.2.2.2.2.2.2.2.2.2.2.2.1 e0.2.2.2.2.2.2.2.2.2.2.2.2.2.2.2.1 e0.2.2.2.2.2.2.2.2.2.2.2.2.2.2.2.2.1 e0.2.2.2.2.2.2.2.2.2.2.2.2.2.2.2.2.2.1 e0.2.2.2.2.2.2.2.2.2.2.2.2.2.2.2.2.2.2.1 e0.2.2.2.2.2.2.2.2.2.2.2.2.2.2.2.2.2.2.2
noncomputable def q : Par := pick ne Goal
@[irreducible] noncomputable def w : World := q.1
@[irreducible] noncomputable def p : Program := q.2.1
@[irreducible] noncomputable def loose : List PySem.Str := q.2.2.1
@[irreducible] noncomputable def mean : ExcName → Option Value := q.2.2.2.1
@[irreducible] noncomputable def mg : PySem.Str → Option Value := q.2.2.2.2.1
@[irreducible] noncomputable def mb : PySem.Str → Option Value := q.2.2.2.2.2.1
@[irreducible] noncomputable def g : Heap := q.2.2.2.2.2.2.1
@[irreducible] noncomputable def h : Heap := q.2.2.2.2.2.2.2.1
@[irreducible] noncomputable def L : Addr := q.2.2.2.2.2.2.2.2.1
@[irreducible] noncomputable def fa : Addr := q.2.2.2.2.2.2.2.2.2.1
@[irreducible] noncomputable def ax : Addr := q.2.2.2.2.2.2.2.2.2.2.1
@[irreducible] noncomputable def cd : Value := q.2.2.2.2.2.2.2.2.2.2.2.1
@[irreducible] noncomputable def s : Shared := q.2.2.2.2.2.2.2.2.2.2.2.2.1
@[irreducible] noncomputable def tk : Nat := q.2.2.2.2.2.2.2.2.2.2.2.2.2.1
@[irreducible] noncomputable def Q : Flow → Shared → Prop := q.2.2.2.2.2.2.2.2.2.2.2.2.2.2.1
@[irreducible] noncomputable def E : Value → Shared → Prop := q.2.2.2.2.2.2.2.2.2.2.2.2.2.2.2.1
@[irreducible] noncomputable def o1 : Obj := q.2.2.2.2.2.2.2.2.2.2.2.2.2.2.2.2.1
@[irreducible] noncomputable def o2 : Obj := q.2.2.2.2.2.2.2.2.2.2.2.2.2.2.2.2.2.1
@[irreducible] noncomputable def items : List Value := q.2.2.2.2.2.2.2.2.2.2.2.2.2.2.2.2.2.2.1
@[irreducible] noncomputable def ns : List Int := q.2.2.2.2.2.2.2.2.2.2.2.2.2.2.2.2.2.2.2
theorem main (B : Below callerA g [] g) (X : (K0 w.params).In g) (T : Top p loose mean mg mb g) (C1 : CodeHd g 61 57) (C2 : CodeHd g 170 168) (hl : g.IsList ax items.toArray) (hI : IntsAre items ns) (hlen : ns.length ≤ 63) (d1 : o1.data = .cell none) (d2 : o2.data = .cell none) (h57 : @LT.lt Nat _ 57 L) (h168 : @LT.lt Nat _ 168 L) (F : Fr g L h (fun x => if x = PySem.Str.ofString "script" then some (.ref ax) else none)) (N : News g L h [(L + 1 + 1, o1), (L + 1, o2), (57, tabObj #[]), (168, tabObj #[])]) (hE : PassesOwn (model P0 w) (callerA.deeper (envOfC (fdName (stm 29)) (fdScope (stm 29)) L fa cd)) (envOfC (fdName (stm 29)) (fdScope (stm 29)) L fa cd) E) (ret : ∀ h' tk' m' n', Fr g L h' m' → News g L h' n' → (∃ ps, (57, tabObj ps) ∈ n') → (∃ ps, (168, tabObj ps) ∈ n') → Q (.ret (.bool true)) { s with heap := h', toks := tk' }) : wpAny (model P0 w) (callerA.deeper (envOfC (fdName (stm 29)) (fdScope (stm 29)) L fa cd)) (execs (fdBody (stm 29)) (envOfC (fdName (stm 29)) (fdScope (stm 29)) L fa cd)) Q E { s with heap := h, toks := tk } := by
  w_on
  have hab := F.above
  have n1 : @Ne Nat (L + 1) 57 := Nat.ne_of_gt (Nat.lt_succ_of_lt h57)
  have n2 : @Ne Nat (L + 1) 168 := Nat.ne_of_gt (Nat.lt_succ_of_lt h168)
  have n3 : @Ne Nat (L + 1) (L + 1 + 1) := n1_ne (L + 1)
  have n4 : @Ne Nat (L + 1 + 1) 57 := Nat.ne_of_gt (Nat.lt_succ_of_lt (Nat.lt_succ_of_lt h57))
  have n5 : @Ne Nat (L + 1 + 1) 168 := Nat.ne_of_gt (Nat.lt_succ_of_lt (Nat.lt_succ_of_lt h168))
  have n6 : @Ne Nat (L + 1 + 1) (L + 1) := (n1_ne (L + 1)).symm
  have n7 : @Ne Nat 57 (L + 1) := s1_ne h57
  have n8 : @Ne Nat 168 (L + 1) := s1_ne h168
  have n9 : @Ne Nat 57 (L + 1 + 1) := s2_ne h57
  have n10 : @Ne Nat 168 (L + 1 + 1) := s2_ne h168
  refine' enter_law ?e1 ?_
  case e1 => exact rfl
  k_steps
  refine Stop.go (PyProof.Rows.LCg.Assign_ListComp_U (F₀ := F) rfl (by with_unfolding_all rfl) (by with_unfolding_all rfl) (by decide) (by rfl) (by decide) (by rfl) (by rfl) (by rfl) ?_)
  k_steps
  rename_i D1 ws1 h1 F1 N1 hI1 hC1 hL1 l1
  have hw5 : ws1.length ≤ 5 := by rw [hI1.length, hC1]; omega
  refine Stop.go (comp_inv (k := 0) (its := ws1) (fun i ys => F2 IntV (((ns.take 5).map md).take i) ys) rfl F1 N1 List.mem_cons_self (by omega) .nil ?step1 ?fin1)
  case step1 =>
    intro i ys v I oI C oC D m₂ h2 g2 tk2 E2 hv hj ho hx F2 N2
    obtain ⟨n, hn⟩ : ∃ n, (ns.take 5)[i]? = some n := ⟨_, List.getElem?_eq_getElem (by rw [← hI1.length]; exact (List.getElem?_eq_some_iff.mp hv).1)⟩
    obtain ⟨t, e⟩ := hI1.get i n hn
    rw [hv] at e
    cases e
    have etake : ((ns.take 5).map md).take (i + 1) = ((ns.take 5).map md).take i ++ [md n] := by rw [List.take_add_one, List.getElem?_map, hn]; rfl
    have emd : n.fmod (10 ^ Int.toNat 8) = ((md n : Nat) : Int) := by
      show n.fmod 100000000 = _
      rw [Int.fmod_eq_emod_of_nonneg _ (by decide)]
      exact (Int.toNat_of_nonneg (Int.emod_nonneg _ (by decide))).symm
    k_steps
    refine EEnd.mk F2 N2 Sub.refl ?_
    rw [etake]
    exact hj.snoc ⟨_, congrArg (Value.int · _) emd⟩
  case fin1 =>
    intro g2 ys hj D2 h2 tk2 F2 N2 off2
    rw [List.take_of_length_le (by rw [List.length_map, hI1.length]; exact Nat.le_refl _)] at hj
    clear F1 N1
    have hyl : ys.length = (ns.take 5).length := by rw [← hj.length, List.length_map]
    have hy5 : ys.length ≤ 5 := by rw [hyl, ← hI1.length]; exact hw5
    have hys : ys.toArray.size ≤ 100000 := by rw [List.size_toArray]; omega
    have hyz : ((ys.toArray.size : Nat) : Int) = ((ys.length : Nat) : Int) := by rw [List.size_toArray]
    k_steps
    rename_i lp h3 F3 N3 l3
    obtain ⟨zs, hzs, hze⟩ : ∃ zs, F2 IntV ([16, 3, 8, 9, 30].drop ys.length) zs ∧ (slicePick _ (some ((ys.length : Nat) : Int)) none none).toList = zs := ⟨_, F2.drop ys.length (.cons ⟨_, rfl⟩ (.cons ⟨_, rfl⟩ (.cons ⟨_, rfl⟩ (.cons ⟨_, rfl⟩ (.cons ⟨_, rfl⟩ .nil))))), congrArg Array.toList (slicePick_from' _ ys.length)⟩
    have hzl : zs.length ≤ 5 := by rw [← hzs.length, List.length_drop]; exact Nat.sub_le ..
    refine Stop.go (kba_turn (value' := PySem.Expr.Name (PySem.Str.ofString "_") ⟨0, 0, 0, 0⟩) (fun _ => rfl) ?_)
    refine (kmk_slice_lit F3 N3 (isList_of N3 List.mem_cons_self) (.int _ _) .none hze ?_ (by with_unfolding_all rfl) (by kmk_pure) (by unfold sizeLine; simp))
    intro D3 h4 F4 N4 l4
    k_lt l4
    clear F3 N3
    k_steps
    rename_i D5 h5 F5 N5 l5
    obtain ⟨n0, m1, m2, m3, m4, t0, t1, t2, t3, t4, hall, b0, b1, b2, b3, b4⟩ := five (hj.append hzs) (by rw [List.length_append, List.length_map, ← hyl, List.length_drop, show [16, 3, 8, 9, 30].length = 5 from rfl]; omega) (fun k hk => by
      rcases List.mem_append.mp hk with hk | hk
      · obtain ⟨n, _, rfl⟩ := List.mem_map.mp hk
        exact md_lt n
      · have := List.mem_of_mem_drop hk
        simp only [List.mem_cons, List.not_mem_nil, or_false] at this
        omega)
    replace N5 : News g L h5 ((D5, W.listOf (ys ++ zs).toArray 0) :: _) := N5
    rw [hall] at N5
    refine' Stop.go (storeX_C F5 N5 ?kc ?kU d2 ?_ ?ka ?kb)
    (case kc => rfl)
    (case kU => exact .tail (Nat.ne_of_gt l5.2.2.2.2.2.1) (.tail (Nat.ne_of_gt l4.2.2.2.2.1) (.tail (Nat.ne_of_gt l3.2.2.2.1) (.tail (Ne.symm (off1_mem off2 (L + 1, o2) (.tail _ (.tail _ (.head _))))) (.tail (Nat.ne_of_gt l1.2.1) (.tail n6 (.head (List.forall_mem_cons.mpr ⟨n7, List.forall_mem_cons.mpr ⟨n8, fun _ h => nomatch h⟩⟩))))))))
    (case ka => rfl)
    (case kb => rfl)
    intro h6 o6 F6 N6 d6
    replace N6 : News g L h6 [(D5, W.listOf #[.int ((n0 : Nat) : Int) t0, .int ((m1 : Nat) : Int) t1, .int ((m2 : Nat) : Int) t2, .int ((m3 : Nat) : Int) t3, .int ((m4 : Nat) : Int) t4] 0), (L + 1 + 1, o1), (L + 1, o6), (57, tabObj #[]), (168, tabObj #[])] := fun p hp => N6 p ((show ∀ p ∈ _, p ∈ _ by k_extra "sub_my") p hp)
    k_steps
    refine fn_use (pair w n0 b0 _ _) B F6 X N6 T C1 C2 (by rfl) (show callerA.depth + 1 < 700 by decide +kernel) (show callerA.units + 3 < 8 * 700 by decide +kernel) ?_
    rintro r7 n7 h7 tk7 F7 N7 ⟨x, y, l7, vs7, cap7, rfl, hpv, rfl, hof7, hx, hy, hxy⟩
    k_steps
    rename_i D8 h8 F8 N8 l8
    refine fn_useS (words w x y hx hy hxy l7 D8 vs7 cap7 0 m1 m2 m3 t1 t2 t3 _ ?p1 hpv ?p2 b1 b2 b3) B F8 N8 X T C1 C2 (fun _ h => nomatch h) (by rfl) (show callerA.depth + 1 < 700 by decide +kernel) (show callerA.units + 3 < 8 * 700 by decide +kernel) ?_
    case p1 => k_mem
    case p2 => k_mem
    rintro g9 r9 n9 h9 tk9 T9 B9 D9 F9 N9 ⟨l9, a1, a2, a3, vs9, cap9, rfl, hv9, rfl, hof9, hcode, hnd⟩
    obtain ⟨u1, u2, u3, hv9e⟩ := f2_three hv9
    subst hv9e
    replace N9 : News g9 L h9 [(l9, W.listOf #[.str (tx (enc a1)) u1, .str (tx (enc a2)) u2, .str (tx (enc a3)) u3] cap9), (D5, W.listOf #[.int ((n0 : Nat) : Int) t0, .int ((m1 : Nat) : Int) t1, .int ((m2 : Nat) : Int) t2, .int ((m3 : Nat) : Int) t3, .int ((m4 : Nat) : Int) t4] 0), (L + 1 + 1, o1), (L + 1, o6), (57, tabObj #[]), (168, tabObj #[])] := fun p hp => N9 p ((show ∀ p ∈ _, p ∈ _ by k_extra "sub_my") p hp)
    have X9 := X.keeps B9.stays
    have T10 := T.keeps B9.stays
    k_steps
    rename_i h10 o10 F10 N10 d10
    simp only [List.cons_append, List.nil_append] at N10
    refine Stop.go (PyProof.Rows.LCg.Assign_ListComp_U (F₀ := F10) rfl (by with_unfolding_all rfl) (by with_unfolding_all rfl) (by decide) (by rfl) (by decide) (by rfl) (by rfl) (by rfl) ?_)
    k_steps
    refine Stop.go (comp_range (2 + m4 % 2) (fun i ys => F2 IntV ((List.range i).map (pl m4)) ys) rfl (by assumption) (by assumption) (by assumption) ?hb (by omega) .nil ?step2 ?fin2)
    case hb =>
      show 2 + ((m4 : Nat) : Int).fmod 2 = _
      rw [Int.fmod_eq_emod_of_nonneg _ (by decide)]
      omega
    case step2 =>
      intro i ys I oI C oC D m₂ h2 g2 tk2 E2 hi hj ho hx F2 N2
      obtain ⟨tz, hx⟩ := hx
      have hi3 : i < 3 := by omega
      match i, hi3, hx with
      | 0, _, hx =>
        k_steps
        exact EEnd.mk F2 N2 Sub.refl (rsnoc hj ⟨_, congrArg (Value.int · _) (pl_eq m4 0)⟩)
      | 1, _, hx =>
        k_steps
        exact EEnd.mk F2 N2 Sub.refl (rsnoc hj ⟨_, congrArg (Value.int · _) (pl_eq m4 1)⟩)
      | 2, _, hx =>
        k_steps
        exact EEnd.mk F2 N2 Sub.refl (rsnoc hj ⟨_, congrArg (Value.int · _) (pl_eq m4 2)⟩)
    case fin2 =>
      intro g2 ys2 hj D2 h2 tk2 FA NA off2
      k_steps
      refine Stop.go (PyProof.Rows.LCg.ListComp_U (F₀ := by assumption) (by with_unfolding_all rfl) (by decide) (by rfl) (by decide) (by rfl) ?_)
      k_steps
      have hyl : ys2.length = 2 + m4 % 2 := by rw [← hj.length, List.length_map, List.length_range]
      refine Stop.go (comp_inv (k := ys2.length) (its := ys2) (fun i zs => F2 TxtV ((((List.range (2 + m4 % 2)).map (pl m4)).take i).map fun c => enc (pk a1 a2 a3 c)) zs) rfl (by assumption) (by assumption) (by k_mem) (by omega) .nil ?step3 ?fin3)
      case step3 =>
        intro i zs v I oI C oC D m₂ h3 g3 tk3 E3 hv hz ho hx3 F3 N3
        obtain ⟨c, hc⟩ : ∃ c, ((List.range (2 + m4 % 2)).map (pl m4))[i]? = some c := ⟨_, List.getElem?_eq_getElem (by rw [hj.length]; exact (List.getElem?_eq_some_iff.mp hv).1)⟩
        obtain ⟨_, q1, t, rfl⟩ := F2.get i hj hc
        rw [hv] at q1
        cases q1
        obtain ⟨j, _, rfl⟩ := List.mem_map.mp (List.mem_of_getElem? hc)
        obtain ⟨u, it⟩ := pk_at a1 a2 a3 u1 u2 u3 (pl m4 j) (Nat.mod_lt _ (by decide))
        k_steps
        refine EEnd.mk F3 N3 Sub.refl ?_
        have etake : ((List.range (2 + m4 % 2)).map (pl m4)).take (i + 1) = ((List.range (2 + m4 % 2)).map (pl m4)).take i ++ [pl m4 j] := by rw [List.take_add_one, hc]; rfl
        rw [etake, List.map_append]
        exact hz.snoc ⟨_, rfl⟩
      case fin3 =>
        intro g3 zs hz D3 h3 tk3 F3 N3 off3
        rw [List.take_of_length_le (by rw [hj.length]; exact Nat.le_refl _), show ((List.range (2 + m4 % 2)).map (pl m4)).map (fun c => enc (pk a1 a2 a3 c)) = (((List.range (2 + m4 % 2)).map (pl m4)).map (pk a1 a2 a3)).map enc by rw [List.map_map (l := (List.range (2 + m4 % 2)).map (pl m4))]; rfl] at hz
        have hps : ∀ p ∈ ((List.range (2 + m4 % 2)).map (pl m4)).map (pk a1 a2 a3), p ∈ [a1, a2, a3] := fun p hp => by
          obtain ⟨c, _, rfl⟩ := List.mem_map.mp hp
          exact pk_mem a1 a2 a3 c
        have hpl : (((List.range (2 + m4 % 2)).map (pl m4)).map (pk a1 a2 a3)).length = 2 + m4 % 2 := by rw [List.length_map, List.length_map, List.length_range]
        generalize ((List.range (2 + m4 % 2)).map (pl m4)).map (pk a1 a2 a3) = ps at hz hps hpl
        k_steps
        with_unfolding_all refine join_my (sl := [46]) N3 (k := zs.length) List.mem_cons_self hz (by first | k_extra "mm" | simp) (by rw [List.length_map, hpl]; omega) ?hj ?_
        case hj =>
          intro y hy
          obtain ⟨c, hc, rfl⟩ := List.mem_map.mp hy
          rw [enc_len]
          have := (hcode.word c (hps c hc)).2.1
          omega
        intro t' k'
        rw [join_flat ps fun p hp => (hcode.word p (hps p hp)).1]
        k_steps
        refine fn_useS (right w l9 cap9 (enc a1) (enc a2) (enc a3) u1 u2 u3 (enc ps.flatten) t' [(l9, W.listOf #[.str (tx (enc a1)) u1, .str (tx (enc a2)) u2, .str (tx (enc a3)) u3] cap9)] List.mem_cons_self ?p3 _ _ (law_ok hcode hnd hps (fun e => by rw [e] at hpl; simp at hpl; omega) (by omega))) B9 (by assumption) (News.sub' N3 ?p4) X T C1 C2 (fun _ h => nomatch h) (by rfl) (show callerA.depth + 1 < 800 by decide +kernel) (show callerA.units + 3 < 8 * 800 by decide +kernel) ?_
        case p3 =>
          intro p hp
          rw [List.mem_singleton.mp hp]
          exact ⟨Ne.symm (hof9 (57, tabObj #[]) (.tail _ (.tail _ (.tail _ (.tail _ (.tail _ (.head _))))))), Ne.symm (hof9 (168, tabObj #[]) (.tail _ (.tail _ (.tail _ (.tail _ (.tail _ (.tail _ (.head _))))))))⟩
        case p4 => exact Sub.cons (.tail _ (.tail _ (.tail _ (.tail _ (.tail _ (.tail _ (.head _))))))) (Sub.cons (.tail _ (.tail _ (.tail _ (.tail _ (.tail _ (.tail _ (.tail _ (.head _)))))))) (Sub.cons (.tail _ (.tail _ (.head _))) fun _ h => nomatch h))
        rintro g12 r12 n12 h12 tk12 T12 B12 D12 F12 N12 ⟨rfl, e57, e168⟩
        k_steps
        exact ret _ _ _ _ ⟨F12.ns, fun b o e => F12.keep b o (B12.stays b o e), hab⟩ (fun p hp => ⟨(N12 p hp).1, (N12 p hp).2.1, by
          cases q : g.get? p.1 with
          | none => rfl
          | some o => exact absurd ((B12.stays _ _ q).symm.trans (N12 p hp).2.2) (by first | k_extra "mm" | simp)⟩) e57 e168
theorem goal_q : Goal q := by with_unfolding_all exact main
end Klaw
theorem law_body (w : World) {p : Program} {loose : List PySem.Str} {mean : ExcName → Option Value} {mg mb : PySem.Str → Option Value} {g h : Heap} {L fa ax : Addr} {cd : Value} {s : Shared} {tk : Nat} {Q : Flow → Shared → Prop} {E : Value → Shared → Prop} {o1 o2 : Obj} {items : List Value} {ns : List Int}
    (B : Below callerA g [] g) (X : (K0 w.params).In g) (T : Top p loose mean mg mb g) (C1 : CodeHd g 61 57) (C2 : CodeHd g 170 168) (hl : g.IsList ax items.toArray) (hI : IntsAre items ns) (hlen : ns.length ≤ 63)
    (d1 : o1.data = .cell none) (d2 : o2.data = .cell none) (h57 : @LT.lt Nat _ 57 L) (h168 : @LT.lt Nat _ 168 L)
    (F : Fr g L h (fun x => if x = PySem.Str.ofString "script" then some (.ref ax) else none)) (N : News g L h [(L + 1 + 1, o1), (L + 1, o2), (57, tabObj #[]), (168, tabObj #[])])
    (hE : PassesOwn (model P0 w) (callerA.deeper (envOfC (fdName (stm 29)) (fdScope (stm 29)) L fa cd)) (envOfC (fdName (stm 29)) (fdScope (stm 29)) L fa cd) E)
    (ret : ∀ h' tk' m' n', Fr g L h' m' → News g L h' n' → (∃ ps, (57, tabObj ps) ∈ n') → (∃ ps, (168, tabObj ps) ∈ n') → Q (.ret (.bool true)) { s with heap := h', toks := tk' }) :
    wpAny (model P0 w) (callerA.deeper (envOfC (fdName (stm 29)) (fdScope (stm 29)) L fa cd)) (execs (fdBody (stm 29)) (envOfC (fdName (stm 29)) (fdScope (stm 29)) L fa cd)) Q E { s with heap := h, toks := tk } := by
  exact pick_all Klaw.ne (P := Klaw.Goal) Klaw.goal_q ⟨w, p, loose, mean, mg, mb, g, h, L, fa, ax, cd, s, tk, Q, E, o1, o2, items, ns⟩ B X T C1 C2 hl hI hlen d1 d2 h57 h168 F N hE ret
end S_FLb
section S_FLw
local macro_rules | `(tactic| walk_at $s:str) => if s.getString ∈ ["CompSrc", "call ref"] then `(tactic| (refine Stop.mk ?_)) else Lean.Macro.throwUnsupported
local macro_rules | `(tactic| walk_at "callWith ref") => `(tactic| (refine' callWith_F ?k1 ?_; (case k1 => k_dflt (exact FnAt.of (by k_asm) (by k_mem)))))
theorem lawW : WalkO q0 loose0 (fun _ _ => True ∧ True) H0.says rw0.row.toRowW d0 [] (fun f vs => PySem.call f vs) := by
  k_fill
  intro w s₀ s₁ mg mb G Y fa o pm cd doc dV kV ho hd hcd hD hmg hg args vals as hpre hlay hrd hwl hlo
  have KX : (K0 w.params).In s₁.heap := km_in_of Y
  have hT8 : ∀ P ∈ ts0, s₁.heap.get? P = some (tabObj #[]) := km_tabs_of Y
  refine Ground.open G ?_
  intro T B D TE TW
  try (refine guard_noD D (by decide +kernel) ?_; clear D)
  have hT9 : TabsAt ([(61, 57), (170, 168)] : List (Addr × Addr)) s₁.heap := List.forall_mem_cons.mpr ⟨⟨codeHd_of_K (c := 61) (P := 57) KX (by kernel_rfl), hT8 57 (by unfold ts0; simp)⟩, List.forall_mem_cons.mpr ⟨⟨codeHd_of_K (c := 170) (P := 168) KX (by kernel_rfl), hT8 168 (by unfold ts0; simp)⟩, fun _ h => nomatch h⟩⟩
  clear hmg
  wrow_args hpre hlay hrd hwl hlo
  all_goals (
    first | refine callC_kw (enter_call ?_) | refine enter_call ?_
    w_top on
    refine kn_post hT9 (fun _ _ => rfl) ?_
    w_call any ho hd hcd hD T F
    clear hd
    kn_ghosts F T
    k_drop
    skip)
  rename_i ns hs hlay0 hL1 hr1 hl2 wa wb ax items wd hIL ra w1 r0 hI hrw hlen htr h1 tk1 o1 o2 d1 d2 X0 X' T' K' F1 C1 N1 l0
  refine law_body (o1 := o1) (o2 := o2) w K' X' T' C1 codeHd lifted hI (by omega) ?d1 ?d2 l0.1 l0.2 ?FF N1 ?hE ?ret
  case d1 => with_unfolding_all exact d1
  case d2 => with_unfolding_all exact d2
  case FF => with_unfolding_all exact F1
  case hE => k_extra "own"
  case ret =>
    rintro h' tk' m' n' F' N' ⟨ps, p57⟩ ⟨qs, p168⟩
    refine ⟨⟨.inl ⟨.bool true, .bool true, [], rfl, fun _ => rfl, .bool true, ?po, fun _ => ⟨.nil, fun _ h => nomatch h⟩⟩, F'.keep, rfl, hg⟩, GrownAt.of N' p57, GrownAt.of N' p168, trivial⟩
    case po => first | rfl | wrow_post | (with_unfolding_all rfl)
end S_FLw
end G_La
end Mine
theorem PySem.Challenge.cw_in0216_01_holds : PySem.Challenge.rw_in0216_01.Holds :=
  Mine.hd Mine.lawW
