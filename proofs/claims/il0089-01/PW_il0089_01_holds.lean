import PyProof.Rows.All
import Wide.All
import OpenK.AllK
import Wide.FinOn
import Lean
import PySem.Challenge.RW_il0089_01
set_option Elab.async false
set_option maxRecDepth 100000
local macro_rules | `(tactic| walk_at $s:str) => `(tactic| k_extra $s)
section -- IlBase
open PySem PySem.W PyProof.Rows
namespace Mine
/-! The statements are taken out of the row's program by unification: no text of it stands here. -/
noncomputable def st5 : Stmt := by
  refine (?f : (s : Stmt) → (PySem.Challenge.pw_il0089_01.main.body[5]? = some s) → Stmt) _ rfl
  exact fun s _ => s
noncomputable def st8 : Stmt := by
  refine (?f : (s : Stmt) → (PySem.Challenge.pw_il0089_01.main.body[8]? = some s) → Stmt) _ rfl
  exact fun s _ => s
noncomputable def st10 : Stmt := by
  refine (?f : (s : Stmt) → (PySem.Challenge.pw_il0089_01.main.body[10]? = some s) → Stmt) _ rfl
  exact fun s _ => s
noncomputable def st11 : Stmt := by
  refine (?f : (s : Stmt) → (PySem.Challenge.pw_il0089_01.main.body[11]? = some s) → Stmt) _ rfl
  exact fun s _ => s
noncomputable def st20 : Stmt := by
  refine (?f : (s : Stmt) → (PySem.Challenge.pw_il0089_01.main.body[20]? = some s) → Stmt) _ rfl
  exact fun s _ => s
noncomputable def st22 : Stmt := by
  refine (?f : (s : Stmt) → (PySem.Challenge.pw_il0089_01.main.body[22]? = some s) → Stmt) _ rfl
  exact fun s _ => s
noncomputable def st25 : Stmt := by
  refine (?f : (s : Stmt) → (PySem.Challenge.pw_il0089_01.main.body[25]? = some s) → Stmt) _ rfl
  exact fun s _ => s
noncomputable def st26 : Stmt := by
  refine (?f : (s : Stmt) → (PySem.Challenge.pw_il0089_01.main.body[26]? = some s) → Stmt) _ rfl
  exact fun s _ => s
noncomputable def st27 : Stmt := by
  refine (?f : (s : Stmt) → (PySem.Challenge.pw_il0089_01.main.body[27]? = some s) → Stmt) _ rfl
  exact fun s _ => s
noncomputable def st29 : Stmt := by
  refine (?f : (s : Stmt) → (PySem.Challenge.pw_il0089_01.main.body[29]? = some s) → Stmt) _ rfl
  exact fun s _ => s
noncomputable def st30 : Stmt := by
  refine (?f : (s : Stmt) → (PySem.Challenge.pw_il0089_01.main.body[30]? = some s) → Stmt) _ rfl
  exact fun s _ => s
noncomputable def st31 : Stmt := by
  refine (?f : (s : Stmt) → (PySem.Challenge.pw_il0089_01.main.body[31]? = some s) → Stmt) _ rfl
  exact fun s _ => s
noncomputable def st32 : Stmt := by
  refine (?f : (s : Stmt) → (PySem.Challenge.pw_il0089_01.main.body[32]? = some s) → Stmt) _ rfl
  exact fun s _ => s
noncomputable def st35 : Stmt := by
  refine (?f : (s : Stmt) → (PySem.Challenge.pw_il0089_01.main.body[35]? = some s) → Stmt) _ rfl
  exact fun s _ => s
noncomputable def st36 : Stmt := by
  refine (?f : (s : Stmt) → (PySem.Challenge.pw_il0089_01.main.body[36]? = some s) → Stmt) _ rfl
  exact fun s _ => s
noncomputable def st37 : Stmt := by
  refine (?f : (s : Stmt) → (PySem.Challenge.pw_il0089_01.main.body[37]? = some s) → Stmt) _ rfl
  exact fun s _ => s
noncomputable def st38 : Stmt := by
  refine (?f : (s : Stmt) → (PySem.Challenge.pw_il0089_01.main.body[38]? = some s) → Stmt) _ rfl
  exact fun s _ => s
noncomputable def st39 : Stmt := by
  refine (?f : (s : Stmt) → (PySem.Challenge.pw_il0089_01.main.body[39]? = some s) → Stmt) _ rfl
  exact fun s _ => s
noncomputable def st41 : Stmt := by
  refine (?f : (s : Stmt) → (PySem.Challenge.pw_il0089_01.main.body[41]? = some s) → Stmt) _ rfl
  exact fun s _ => s
noncomputable def st42 : Stmt := by
  refine (?f : (s : Stmt) → (PySem.Challenge.pw_il0089_01.main.body[42]? = some s) → Stmt) _ rfl
  exact fun s _ => s
noncomputable def st43 : Stmt := by
  refine (?f : (s : Stmt) → (PySem.Challenge.pw_il0089_01.main.body[43]? = some s) → Stmt) _ rfl
  exact fun s _ => s
noncomputable def st44 : Stmt := by
  refine (?f : (s : Stmt) → (PySem.Challenge.pw_il0089_01.main.body[44]? = some s) → Stmt) _ rfl
  exact fun s _ => s
noncomputable def st45 : Stmt := by
  refine (?f : (s : Stmt) → (PySem.Challenge.pw_il0089_01.main.body[45]? = some s) → Stmt) _ rfl
  exact fun s _ => s
noncomputable def st46 : Stmt := by
  refine (?f : (s : Stmt) → (PySem.Challenge.pw_il0089_01.main.body[46]? = some s) → Stmt) _ rfl
  exact fun s _ => s
noncomputable def st47 : Stmt := by
  refine (?f : (s : Stmt) → (PySem.Challenge.pw_il0089_01.main.body[47]? = some s) → Stmt) _ rfl
  exact fun s _ => s
noncomputable def st48 : Stmt := by
  refine (?f : (s : Stmt) → (PySem.Challenge.pw_il0089_01.main.body[48]? = some s) → Stmt) _ rfl
  exact fun s _ => s
noncomputable def bodyOf : Stmt → List Stmt
  | .FunctionDef _ _ body _ _ _ _ _ _ _ => body
  | _ => []
noncomputable def docV (st : Stmt) (docTok : Tok) : Value := match docOf (bodyOf st) with | some t => .str t docTok | none => .none
noncomputable def fnObjD (st : Stmt) (doc pm : Value) (code : Addr) : Obj := match st with
  | .FunctionDef name params body _ _ _ scope _ _ _ =>
    ⟨.type "function", none, .func (fnOf name name params body scope .none .none doc pm none (.ref code) .none), #[]⟩
  | _ => default
noncomputable abbrev fnObj (st : Stmt) (docTok : Tok) (pm : Value) (code : Addr) : Obj := fnObjD st (docV st docTok) pm code
noncomputable def o3 (P : Params) : Obj := ⟨.type "dict", none, .dict ([⟨PyData.keyHash P (PySem.Str.ofString "__name__"), .str (PySem.Str.ofString "__name__") 165, .str (PySem.Str.ofString "law_il0089_01") 820⟩, ⟨PyData.keyHash P (PySem.Str.ofString "__doc__"), .str (PySem.Str.ofString "__doc__") 166, .none⟩, ⟨PyData.keyHash P (PySem.Str.ofString "__package__"), .str (PySem.Str.ofString "__package__") 167, .none⟩, ⟨PyData.keyHash P (PySem.Str.ofString "__loader__"), .str (PySem.Str.ofString "__loader__") 168, .builtin "__main__.__loader__#opaque"⟩, ⟨PyData.keyHash P (PySem.Str.ofString "__spec__"), .str (PySem.Str.ofString "__spec__") 169, .none⟩, ⟨PyData.keyHash P (PySem.Str.ofString "__annotations__"), .str (PySem.Str.ofString "__annotations__") 170, .ref 6⟩, ⟨PyData.keyHash P (PySem.Str.ofString "__builtins__"), .str (PySem.Str.ofString "__builtins__") 171, .ref 4⟩, ⟨PyData.keyHash P (PySem.Str.ofString "__file__"), .str (PySem.Str.ofString "__file__") 173, .str (PySem.Str.ofString "/claim/cut.py") 172⟩, ⟨PyData.keyHash P (PySem.Str.ofString "__cached__"), .str (PySem.Str.ofString "__cached__") 174, .none⟩, ⟨PyData.keyHash P (PySem.Str.ofString "_sre"), .str (PySem.Str.ofString "_sre") 275, .ref 12⟩, ⟨PyData.keyHash P (PySem.Str.ofString "_wall"), .str (PySem.Str.ofString "_wall") 288, .ref 38⟩, ⟨PyData.keyHash P (PySem.Str.ofString "_pe_doc"), .str (PySem.Str.ofString "_pe_doc") 297, .ref 45⟩, ⟨PyData.keyHash P (PySem.Str.ofString "_twin_re_1"), .str (PySem.Str.ofString "_twin_re_1") 337, .ref 50⟩, ⟨PyData.keyHash P (PySem.Str.ofString "translate"), .str (PySem.Str.ofString "translate") 347, .ref 57⟩, ⟨PyData.keyHash P (PySem.Str.ofString "_special_chars_map"), .str (PySem.Str.ofString "_special_chars_map") 495, .ref 59⟩, ⟨PyData.keyHash P (PySem.Str.ofString "escape"), .str (PySem.Str.ofString "escape") 502, .ref 69⟩, ⟨PyData.keyHash P (PySem.Str.ofString "_translate"), .str (PySem.Str.ofString "_translate") 523, .ref 76⟩, ⟨PyData.keyHash P (PySem.Str.ofString "_join_translated_parts"), .str (PySem.Str.ofString "_join_translated_parts") 536, .ref 83⟩, ⟨PyData.keyHash P (PySem.Str.ofString "_plain_name"), .str (PySem.Str.ofString "_plain_name") 547, .ref 90⟩, ⟨PyData.keyHash P (PySem.Str.ofString "ABCMeta"), .str (PySem.Str.ofString "ABCMeta") 573, .ref 107⟩, ⟨PyData.keyHash P (PySem.Str.ofString "_ABCLike"), .str (PySem.Str.ofString "_ABCLike") 616, .ref 140⟩, ⟨PyData.keyHash P (PySem.Str.ofString "_abc_plain_meta"), .str (PySem.Str.ofString "_abc_plain_meta") 623, .ref 149⟩, ⟨PyData.keyHash P (PySem.Str.ofString "fspath"), .str (PySem.Str.ofString "fspath") 635, .ref 156⟩, ⟨PyData.keyHash P (PySem.Str.ofString "_splitext"), .str (PySem.Str.ofString "_splitext") 652, .ref 163⟩, ⟨PyData.keyHash P (PySem.Str.ofString "_check_arg_types"), .str (PySem.Str.ofString "_check_arg_types") 663, .ref 170⟩, ⟨PyData.keyHash P (PySem.Str.ofString "_get_sep"), .str (PySem.Str.ofString "_get_sep") 672, .ref 177⟩, ⟨PyData.keyHash P (PySem.Str.ofString "join"), .str (PySem.Str.ofString "join") 684, .ref 184⟩, ⟨PyData.keyHash P (PySem.Str.ofString "splitext"), .str (PySem.Str.ofString "splitext") 693, .ref 191⟩, ⟨PyData.keyHash P (PySem.Str.ofString "splitroot"), .str (PySem.Str.ofString "splitroot") 738, .ref 201⟩, ⟨PyData.keyHash P (PySem.Str.ofString "basename"), .str (PySem.Str.ofString "basename") 748, .ref 208⟩, ⟨PyData.keyHash P (PySem.Str.ofString "dirname"), .str (PySem.Str.ofString "dirname") 759, .ref 215⟩, ⟨PyData.keyHash P (PySem.Str.ofString "normpath"), .str (PySem.Str.ofString "normpath") 775, .ref 222⟩, ⟨PyData.keyHash P (PySem.Str.ofString "_raise_serialization_error"), .str (PySem.Str.ofString "_raise_serialization_error") 784, .ref 229⟩, ⟨PyData.keyHash P (PySem.Str.ofString "_escape_cdata"), .str (PySem.Str.ofString "_escape_cdata") 791, .ref 236⟩, ⟨PyData.keyHash P (PySem.Str.ofString "_escape_attrib"), .str (PySem.Str.ofString "_escape_attrib") 798, .ref 243⟩, ⟨PyData.keyHash P (PySem.Str.ofString "_escape_attrib_html"), .str (PySem.Str.ofString "_escape_attrib_html") 805, .ref 250⟩, ⟨PyData.keyHash P (PySem.Str.ofString "_escape_cdata_c14n"), .str (PySem.Str.ofString "_escape_cdata_c14n") 812, .ref 257⟩, ⟨PyData.keyHash P (PySem.Str.ofString "_escape_attrib_c14n"), .str (PySem.Str.ofString "_escape_attrib_c14n") 819, .ref 264⟩, ⟨PyData.keyHash P (PySem.Str.ofString "_law_piece"), .str (PySem.Str.ofString "_law_piece") 829, .ref 271⟩, ⟨PyData.keyHash P (PySem.Str.ofString "_law_hand"), .str (PySem.Str.ofString "_law_hand") 837, .ref 278⟩, ⟨PyData.keyHash P (PySem.Str.ofString "_law_table"), .str (PySem.Str.ofString "_law_table") 844, .ref 285⟩, ⟨PyData.keyHash P (PySem.Str.ofString "_law_expression"), .str (PySem.Str.ofString "_law_expression") 850, .ref 290⟩, ⟨PyData.keyHash P (PySem.Str.ofString "_law_straight"), .str (PySem.Str.ofString "_law_straight") 860, .ref 297⟩, ⟨PyData.keyHash P (PySem.Str.ofString "_law_told"), .str (PySem.Str.ofString "_law_told") 866, .ref 302⟩, ⟨PyData.keyHash P (PySem.Str.ofString "_law_agrees"), .str (PySem.Str.ofString "_law_agrees") 876, .ref 309⟩, ⟨PyData.keyHash P (PySem.Str.ofString "law"), .str (PySem.Str.ofString "law") 882, .ref 314⟩] : List DictEntry).toArray 46, #[]⟩
noncomputable def o47 (P : Params) : Obj := ⟨.type "dict", none, .dict ([] : List DictEntry).toArray 0, #[]⟩
noncomputable def o48 (P : Params) : Obj := ⟨.type "tuple", none, .seq ([.none, .none] : List Value).toArray 0, #[]⟩
noncomputable def o49 (P : Params) : Obj := ⟨.type "tuple", none, .seq ([.int 14 0, .int 14 0, .int 4 0, .int 1 0, .int 1 0, .int 9 0, .int 0 0, .int 64 0, .int 0 0, .int 1342177280 0, .int 0 0, .int 0 0, .int 0 0, .int 0 0, .int 0 0, .int 17 0, .int 0 0, .int 13 0, .int 11 0, .int 9 0, .int 0 0, .int 64 0, .int 0 0, .int 1342177280 0, .int 0 0, .int 0 0, .int 0 0, .int 0 0, .int 0 0, .int 17 0, .int 1 0, .int 1 0] : List Value).toArray 0, #[]⟩
noncomputable def o50 (P : Params) : Obj := ⟨.type "re.Pattern", none, .fields ([.str (PySem.Str.ofString "([&~|])") 301, .int 32 336, .int 1 0, .none, .none, .ref 49, .int 0 0] : List Value).toArray, #[]⟩
noncomputable def o56 (P : Params) : Obj := ⟨.type "code", none, .fields ([.str (PySem.Str.ofString "translate") 338, .str (PySem.Str.ofString "translate") 339, .str (PySem.Str.ofString "/claim/cut.py") 340, .int 15 0, .int 1 0, .int 0 0, .int 0 0, .int 3 0, .ref 51, .bool true, .int 276 0, .ref 52, .none, .ref 53, .ref 54, .ref 55, .int 344 0, .int 15 0, .str (PySem.Str.ofString "/claim/cut.py") 345] : List Value).toArray, #[]⟩
noncomputable def o57 (P : Params) : Obj := fnObj st5 346 (.str (PySem.Str.ofString "cpy313.fnmatch") 298) 56
noncomputable def o59 (P : Params) : Obj := ⟨.type "dict", none, .dict ([⟨40, .int 40 351, .str (PySem.Str.ofString "\\(") 355⟩, ⟨41, .int 41 357, .str (PySem.Str.ofString "\\)") 361⟩, ⟨91, .int 91 363, .str (PySem.Str.ofString "\\[") 367⟩, ⟨93, .int 93 369, .str (PySem.Str.ofString "\\]") 373⟩, ⟨123, .int 123 375, .str (PySem.Str.ofString "\\{") 379⟩, ⟨125, .int 125 381, .str (PySem.Str.ofString "\\}") 385⟩, ⟨63, .int 63 387, .str (PySem.Str.ofString "\\?") 391⟩, ⟨42, .int 42 393, .str (PySem.Str.ofString "\\*") 397⟩, ⟨43, .int 43 399, .str (PySem.Str.ofString "\\+") 403⟩, ⟨45, .int 45 405, .str (PySem.Str.ofString "\\-") 409⟩, ⟨124, .int 124 411, .str (PySem.Str.ofString "\\|") 415⟩, ⟨94, .int 94 417, .str (PySem.Str.ofString "\\^") 421⟩, ⟨36, .int 36 423, .str (PySem.Str.ofString "\\$") 427⟩, ⟨92, .int 92 429, .str (PySem.Str.ofString "\\\\") 433⟩, ⟨46, .int 46 435, .str (PySem.Str.ofString "\\.") 439⟩, ⟨38, .int 38 441, .str (PySem.Str.ofString "\\&") 445⟩, ⟨126, .int 126 447, .str (PySem.Str.ofString "\\~") 451⟩, ⟨35, .int 35 453, .str (PySem.Str.ofString "\\#") 457⟩, ⟨32, .int 32 459, .str (PySem.Str.ofString "\\ ") 463⟩, ⟨9, .int 9 465, .str (PySem.Str.ofString "\\\t") 469⟩, ⟨10, .int 10 471, .str (PySem.Str.ofString "\\\n") 475⟩, ⟨13, .int 13 477, .str (PySem.Str.ofString "\\\r") 481⟩, ⟨11, .int 11 483, .str (PySem.Str.ofString "\\\x0b") 487⟩, ⟨12, .int 12 489, .str (PySem.Str.ofString "\\\x0c") 493⟩] : List DictEntry).toArray 24, #[]⟩
noncomputable def o68 (P : Params) : Obj := ⟨.type "code", none, .fields ([.str (PySem.Str.ofString "escape") 496, .str (PySem.Str.ofString "escape") 497, .str (PySem.Str.ofString "/claim/cut.py") 498, .int 25 0, .int 1 0, .int 0 0, .int 0 0, .int 3 0, .ref 63, .bool true, .int 276 0, .ref 64, .none, .ref 65, .ref 66, .ref 67, .int 500 0, .int 25 0, .str (PySem.Str.ofString "/claim/cut.py") 501] : List Value).toArray, #[]⟩
noncomputable def o69 (P : Params) : Obj := fnObj st8 0 (.str (PySem.Str.ofString "re") 348) 68
noncomputable def o75 (P : Params) : Obj := ⟨.type "code", none, .fields ([.str (PySem.Str.ofString "_translate") 505, .str (PySem.Str.ofString "_translate") 506, .str (PySem.Str.ofString "/claim/cut.py") 507, .int 32 0, .int 3 0, .int 0 0, .int 0 0, .int 3 0, .ref 70, .bool true, .int 276 0, .ref 71, .none, .ref 72, .ref 73, .ref 74, .int 521 0, .int 32 0, .str (PySem.Str.ofString "/claim/cut.py") 522] : List Value).toArray, #[]⟩
noncomputable def o76 (P : Params) : Obj := fnObj st10 0 (.str (PySem.Str.ofString "cpy313.fnmatch") 503) 75
noncomputable def o82 (P : Params) : Obj := ⟨.type "code", none, .fields ([.str (PySem.Str.ofString "_join_translated_parts") 524, .str (PySem.Str.ofString "_join_translated_parts") 525, .str (PySem.Str.ofString "/claim/cut.py") 526, .int 94 0, .int 2 0, .int 0 0, .int 0 0, .int 3 0, .ref 77, .bool true, .int 276 0, .ref 78, .none, .ref 79, .ref 80, .ref 81, .int 534 0, .int 94 0, .str (PySem.Str.ofString "/claim/cut.py") 535] : List Value).toArray, #[]⟩
noncomputable def o83 (P : Params) : Obj := fnObj st11 0 (.str (PySem.Str.ofString "cpy313.fnmatch") 503) 82
noncomputable def o155 (P : Params) : Obj := ⟨.type "code", none, .fields ([.str (PySem.Str.ofString "fspath") 626, .str (PySem.Str.ofString "fspath") 627, .str (PySem.Str.ofString "/claim/cut.py") 628, .int 152 0, .int 1 0, .int 0 0, .int 0 0, .int 3 0, .ref 150, .bool true, .int 276 0, .ref 151, .none, .ref 152, .ref 153, .ref 154, .int 633 0, .int 152 0, .str (PySem.Str.ofString "/claim/cut.py") 634] : List Value).toArray, #[]⟩
noncomputable def o156 (P : Params) : Obj := fnObj st20 0 (.str (PySem.Str.ofString "os") 624) 155
noncomputable def o162 (P : Params) : Obj := ⟨.type "code", none, .fields ([.str (PySem.Str.ofString "_splitext") 638, .str (PySem.Str.ofString "_splitext") 639, .str (PySem.Str.ofString "/claim/cut.py") 640, .int 169 0, .int 4 0, .int 0 0, .int 0 0, .int 3 0, .ref 157, .bool true, .int 276 0, .ref 158, .none, .ref 159, .ref 160, .ref 161, .int 649 0, .int 169 0, .str (PySem.Str.ofString "/claim/cut.py") 650] : List Value).toArray, #[]⟩
noncomputable def o163 (P : Params) : Obj := fnObj st22 651 (.str (PySem.Str.ofString "cpy313.genericpath") 636) 162
noncomputable def o176 (P : Params) : Obj := ⟨.type "code", none, .fields ([.str (PySem.Str.ofString "_get_sep") 666, .str (PySem.Str.ofString "_get_sep") 667, .str (PySem.Str.ofString "/claim/cut.py") 668, .int 198 0, .int 1 0, .int 0 0, .int 0 0, .int 3 0, .ref 171, .bool true, .int 276 0, .ref 172, .none, .ref 173, .ref 174, .ref 175, .int 670 0, .int 198 0, .str (PySem.Str.ofString "/claim/cut.py") 671] : List Value).toArray, #[]⟩
noncomputable def o177 (P : Params) : Obj := fnObj st25 0 (.str (PySem.Str.ofString "cpy313.posixpath") 664) 176
noncomputable def o183 (P : Params) : Obj := ⟨.type "code", none, .fields ([.str (PySem.Str.ofString "join") 673, .str (PySem.Str.ofString "join") 674, .str (PySem.Str.ofString "/claim/cut.py") 675, .int 203 0, .int 1 0, .int 0 0, .int 0 0, .int 7 0, .ref 178, .bool true, .int 276 0, .ref 179, .none, .ref 180, .ref 181, .ref 182, .int 681 0, .int 203 0, .str (PySem.Str.ofString "/claim/cut.py") 682] : List Value).toArray, #[]⟩
noncomputable def o184 (P : Params) : Obj := fnObj st26 683 (.str (PySem.Str.ofString "cpy313.posixpath") 664) 183
noncomputable def o190 (P : Params) : Obj := ⟨.type "code", none, .fields ([.str (PySem.Str.ofString "splitext") 685, .str (PySem.Str.ofString "splitext") 686, .str (PySem.Str.ofString "/claim/cut.py") 687, .int 224 0, .int 1 0, .int 0 0, .int 0 0, .int 3 0, .ref 185, .bool true, .int 276 0, .ref 186, .none, .ref 187, .ref 188, .ref 189, .int 691 0, .int 224 0, .str (PySem.Str.ofString "/claim/cut.py") 692] : List Value).toArray, #[]⟩
noncomputable def o191 (P : Params) : Obj := fnObjD st27 (docV st22 651) (.str (PySem.Str.ofString "cpy313.posixpath") 664) 190
noncomputable def o200 (P : Params) : Obj := ⟨.type "code", none, .fields ([.str (PySem.Str.ofString "splitroot") 729, .str (PySem.Str.ofString "splitroot") 730, .str (PySem.Str.ofString "/claim/cut.py") 731, .int 234 0, .int 1 0, .int 0 0, .int 0 0, .int 3 0, .ref 195, .bool true, .int 276 0, .ref 196, .none, .ref 197, .ref 198, .ref 199, .int 735 0, .int 234 0, .str (PySem.Str.ofString "/claim/cut.py") 736] : List Value).toArray, #[]⟩
noncomputable def o201 (P : Params) : Obj := fnObj st29 737 (.str (PySem.Str.ofString "cpy313.posixpath") 664) 200
noncomputable def o207 (P : Params) : Obj := ⟨.type "code", none, .fields ([.str (PySem.Str.ofString "basename") 739, .str (PySem.Str.ofString "basename") 740, .str (PySem.Str.ofString "/claim/cut.py") 741, .int 251 0, .int 1 0, .int 0 0, .int 0 0, .int 3 0, .ref 202, .bool true, .int 276 0, .ref 203, .none, .ref 204, .ref 205, .ref 206, .int 745 0, .int 251 0, .str (PySem.Str.ofString "/claim/cut.py") 746] : List Value).toArray, #[]⟩
noncomputable def o208 (P : Params) : Obj := fnObj st30 747 (.str (PySem.Str.ofString "cpy313.posixpath") 664) 207
noncomputable def o214 (P : Params) : Obj := ⟨.type "code", none, .fields ([.str (PySem.Str.ofString "dirname") 749, .str (PySem.Str.ofString "dirname") 750, .str (PySem.Str.ofString "/claim/cut.py") 751, .int 257 0, .int 1 0, .int 0 0, .int 0 0, .int 3 0, .ref 209, .bool true, .int 276 0, .ref 210, .none, .ref 211, .ref 212, .ref 213, .int 756 0, .int 257 0, .str (PySem.Str.ofString "/claim/cut.py") 757] : List Value).toArray, #[]⟩
noncomputable def o215 (P : Params) : Obj := fnObj st31 758 (.str (PySem.Str.ofString "cpy313.posixpath") 664) 214
noncomputable def o221 (P : Params) : Obj := ⟨.type "code", none, .fields ([.str (PySem.Str.ofString "normpath") 760, .str (PySem.Str.ofString "normpath") 761, .str (PySem.Str.ofString "/claim/cut.py") 762, .int 266 0, .int 1 0, .int 0 0, .int 0 0, .int 3 0, .ref 216, .bool true, .int 276 0, .ref 217, .none, .ref 218, .ref 219, .ref 220, .int 772 0, .int 266 0, .str (PySem.Str.ofString "/claim/cut.py") 773] : List Value).toArray, #[]⟩
noncomputable def o222 (P : Params) : Obj := fnObj st32 774 (.str (PySem.Str.ofString "cpy313.posixpath") 664) 221
noncomputable def o235 (P : Params) : Obj := ⟨.type "code", none, .fields ([.str (PySem.Str.ofString "_escape_cdata") 785, .str (PySem.Str.ofString "_escape_cdata") 786, .str (PySem.Str.ofString "/claim/cut.py") 787, .int 295 0, .int 1 0, .int 0 0, .int 0 0, .int 3 0, .ref 230, .bool true, .int 276 0, .ref 231, .none, .ref 232, .ref 233, .ref 234, .int 789 0, .int 295 0, .str (PySem.Str.ofString "/claim/cut.py") 790] : List Value).toArray, #[]⟩
noncomputable def o236 (P : Params) : Obj := fnObj st35 0 (.str (PySem.Str.ofString "cpy313.xml.etree.ElementTree") 776) 235
noncomputable def o242 (P : Params) : Obj := ⟨.type "code", none, .fields ([.str (PySem.Str.ofString "_escape_attrib") 792, .str (PySem.Str.ofString "_escape_attrib") 793, .str (PySem.Str.ofString "/claim/cut.py") 794, .int 306 0, .int 1 0, .int 0 0, .int 0 0, .int 3 0, .ref 237, .bool true, .int 276 0, .ref 238, .none, .ref 239, .ref 240, .ref 241, .int 796 0, .int 306 0, .str (PySem.Str.ofString "/claim/cut.py") 797] : List Value).toArray, #[]⟩
noncomputable def o243 (P : Params) : Obj := fnObj st36 0 (.str (PySem.Str.ofString "cpy313.xml.etree.ElementTree") 776) 242
noncomputable def o249 (P : Params) : Obj := ⟨.type "code", none, .fields ([.str (PySem.Str.ofString "_escape_attrib_html") 799, .str (PySem.Str.ofString "_escape_attrib_html") 800, .str (PySem.Str.ofString "/claim/cut.py") 801, .int 325 0, .int 1 0, .int 0 0, .int 0 0, .int 3 0, .ref 244, .bool true, .int 276 0, .ref 245, .none, .ref 246, .ref 247, .ref 248, .int 803 0, .int 325 0, .str (PySem.Str.ofString "/claim/cut.py") 804] : List Value).toArray, #[]⟩
noncomputable def o250 (P : Params) : Obj := fnObj st37 0 (.str (PySem.Str.ofString "cpy313.xml.etree.ElementTree") 776) 249
noncomputable def o256 (P : Params) : Obj := ⟨.type "code", none, .fields ([.str (PySem.Str.ofString "_escape_cdata_c14n") 806, .str (PySem.Str.ofString "_escape_cdata_c14n") 807, .str (PySem.Str.ofString "/claim/cut.py") 808, .int 336 0, .int 1 0, .int 0 0, .int 0 0, .int 3 0, .ref 251, .bool true, .int 276 0, .ref 252, .none, .ref 253, .ref 254, .ref 255, .int 810 0, .int 336 0, .str (PySem.Str.ofString "/claim/cut.py") 811] : List Value).toArray, #[]⟩
noncomputable def o257 (P : Params) : Obj := fnObj st38 0 (.str (PySem.Str.ofString "cpy313.xml.etree.ElementTree") 776) 256
noncomputable def o263 (P : Params) : Obj := ⟨.type "code", none, .fields ([.str (PySem.Str.ofString "_escape_attrib_c14n") 813, .str (PySem.Str.ofString "_escape_attrib_c14n") 814, .str (PySem.Str.ofString "/claim/cut.py") 815, .int 349 0, .int 1 0, .int 0 0, .int 0 0, .int 3 0, .ref 258, .bool true, .int 276 0, .ref 259, .none, .ref 260, .ref 261, .ref 262, .int 817 0, .int 349 0, .str (PySem.Str.ofString "/claim/cut.py") 818] : List Value).toArray, #[]⟩
noncomputable def o264 (P : Params) : Obj := fnObj st39 0 (.str (PySem.Str.ofString "cpy313.xml.etree.ElementTree") 776) 263
noncomputable def o270 (P : Params) : Obj := ⟨.type "code", none, .fields ([.str (PySem.Str.ofString "_law_piece") 822, .str (PySem.Str.ofString "_law_piece") 823, .str (PySem.Str.ofString "/claim/cut.py") 824, .int 367 0, .int 1 0, .int 0 0, .int 0 0, .int 3 0, .ref 265, .bool true, .int 276 0, .ref 266, .none, .ref 267, .ref 268, .ref 269, .int 827 0, .int 367 0, .str (PySem.Str.ofString "/claim/cut.py") 828] : List Value).toArray, #[]⟩
noncomputable def o271 (P : Params) : Obj := fnObj st41 0 (.str (PySem.Str.ofString "law_il0089_01") 820) 270
noncomputable def o277 (P : Params) : Obj := ⟨.type "code", none, .fields ([.str (PySem.Str.ofString "_law_hand") 830, .str (PySem.Str.ofString "_law_hand") 831, .str (PySem.Str.ofString "/claim/cut.py") 832, .int 370 0, .int 2 0, .int 0 0, .int 0 0, .int 3 0, .ref 272, .bool true, .int 276 0, .ref 273, .none, .ref 274, .ref 275, .ref 276, .int 835 0, .int 370 0, .str (PySem.Str.ofString "/claim/cut.py") 836] : List Value).toArray, #[]⟩
noncomputable def o278 (P : Params) : Obj := fnObj st42 0 (.str (PySem.Str.ofString "law_il0089_01") 820) 277
noncomputable def o284 (P : Params) : Obj := ⟨.type "code", none, .fields ([.str (PySem.Str.ofString "_law_table") 838, .str (PySem.Str.ofString "_law_table") 839, .str (PySem.Str.ofString "/claim/cut.py") 840, .int 392 0, .int 1 0, .int 0 0, .int 0 0, .int 3 0, .ref 279, .bool true, .int 276 0, .ref 280, .none, .ref 281, .ref 282, .ref 283, .int 842 0, .int 392 0, .str (PySem.Str.ofString "/claim/cut.py") 843] : List Value).toArray, #[]⟩
noncomputable def o285 (P : Params) : Obj := fnObj st43 0 (.str (PySem.Str.ofString "law_il0089_01") 820) 284
noncomputable def o289 (P : Params) : Obj := ⟨.type "code", none, .fields ([.str (PySem.Str.ofString "_law_expression") 845, .str (PySem.Str.ofString "_law_expression") 846, .str (PySem.Str.ofString "/claim/cut.py") 847, .int 402 0, .int 1 0, .int 0 0, .int 0 0, .int 3 0, .ref 286, .bool true, .int 276 0, .ref 287, .none, .none, .none, .ref 288, .int 848 0, .int 402 0, .str (PySem.Str.ofString "/claim/cut.py") 849] : List Value).toArray, #[]⟩
noncomputable def o290 (P : Params) : Obj := fnObj st44 0 (.str (PySem.Str.ofString "law_il0089_01") 820) 289
noncomputable def o296 (P : Params) : Obj := ⟨.type "code", none, .fields ([.str (PySem.Str.ofString "_law_straight") 851, .str (PySem.Str.ofString "_law_straight") 852, .str (PySem.Str.ofString "/claim/cut.py") 853, .int 422 0, .int 1 0, .int 0 0, .int 0 0, .int 3 0, .ref 291, .bool true, .int 276 0, .ref 292, .none, .ref 293, .ref 294, .ref 295, .int 858 0, .int 422 0, .str (PySem.Str.ofString "/claim/cut.py") 859] : List Value).toArray, #[]⟩
noncomputable def o297 (P : Params) : Obj := fnObj st45 0 (.str (PySem.Str.ofString "law_il0089_01") 820) 296
noncomputable def o301 (P : Params) : Obj := ⟨.type "code", none, .fields ([.str (PySem.Str.ofString "_law_told") 861, .str (PySem.Str.ofString "_law_told") 862, .str (PySem.Str.ofString "/claim/cut.py") 863, .int 434 0, .int 2 0, .int 0 0, .int 0 0, .int 3 0, .ref 298, .bool true, .int 276 0, .ref 299, .none, .none, .none, .ref 300, .int 864 0, .int 434 0, .str (PySem.Str.ofString "/claim/cut.py") 865] : List Value).toArray, #[]⟩
noncomputable def o302 (P : Params) : Obj := fnObj st46 0 (.str (PySem.Str.ofString "law_il0089_01") 820) 301
noncomputable def o308 (P : Params) : Obj := ⟨.type "code", none, .fields ([.str (PySem.Str.ofString "_law_agrees") 867, .str (PySem.Str.ofString "_law_agrees") 868, .str (PySem.Str.ofString "/claim/cut.py") 869, .int 454 0, .int 2 0, .int 0 0, .int 0 0, .int 3 0, .ref 303, .bool true, .int 276 0, .ref 304, .none, .ref 305, .ref 306, .ref 307, .int 874 0, .int 454 0, .str (PySem.Str.ofString "/claim/cut.py") 875] : List Value).toArray, #[]⟩
noncomputable def o309 (P : Params) : Obj := fnObj st47 0 (.str (PySem.Str.ofString "law_il0089_01") 820) 308
noncomputable def o313 (P : Params) : Obj := ⟨.type "code", none, .fields ([.str (PySem.Str.ofString "law") 877, .str (PySem.Str.ofString "law") 878, .str (PySem.Str.ofString "/claim/cut.py") 879, .int 461 0, .int 1 0, .int 0 0, .int 0 0, .int 3 0, .ref 310, .bool true, .int 276 0, .ref 311, .none, .none, .none, .ref 312, .int 880 0, .int 461 0, .str (PySem.Str.ofString "/claim/cut.py") 881] : List Value).toArray, #[]⟩
noncomputable def o314 (P : Params) : Obj := fnObj st48 0 (.str (PySem.Str.ofString "law_il0089_01") 820) 313
noncomputable def K (P : Params) : Frag := (nat_lit 3, o3 P) :: (nat_lit 47, o47 P) :: (nat_lit 48, o48 P) :: (nat_lit 49, o49 P) :: (nat_lit 50, o50 P) :: (nat_lit 56, o56 P) :: (nat_lit 57, o57 P) :: (nat_lit 59, o59 P) :: (nat_lit 68, o68 P) :: (nat_lit 69, o69 P) :: (nat_lit 75, o75 P) :: (nat_lit 76, o76 P) :: (nat_lit 82, o82 P) :: (nat_lit 83, o83 P) :: (nat_lit 155, o155 P) :: (nat_lit 156, o156 P) :: (nat_lit 162, o162 P) :: (nat_lit 163, o163 P) :: (nat_lit 176, o176 P) :: (nat_lit 177, o177 P) :: (nat_lit 183, o183 P) :: (nat_lit 184, o184 P) :: (nat_lit 190, o190 P) :: (nat_lit 191, o191 P) :: (nat_lit 200, o200 P) :: (nat_lit 201, o201 P) :: (nat_lit 207, o207 P) :: (nat_lit 208, o208 P) :: (nat_lit 214, o214 P) :: (nat_lit 215, o215 P) :: (nat_lit 221, o221 P) :: (nat_lit 222, o222 P) :: (nat_lit 235, o235 P) :: (nat_lit 236, o236 P) :: (nat_lit 242, o242 P) :: (nat_lit 243, o243 P) :: (nat_lit 249, o249 P) :: (nat_lit 250, o250 P) :: (nat_lit 256, o256 P) :: (nat_lit 257, o257 P) :: (nat_lit 263, o263 P) :: (nat_lit 264, o264 P) :: (nat_lit 270, o270 P) :: (nat_lit 271, o271 P) :: (nat_lit 277, o277 P) :: (nat_lit 278, o278 P) :: (nat_lit 284, o284 P) :: (nat_lit 285, o285 P) :: (nat_lit 289, o289 P) :: (nat_lit 290, o290 P) :: (nat_lit 296, o296 P) :: (nat_lit 297, o297 P) :: (nat_lit 301, o301 P) :: (nat_lit 302, o302 P) :: (nat_lit 308, o308 P) :: (nat_lit 309, o309 P) :: (nat_lit 313, o313 P) :: (nat_lit 314, o314 P) :: []
noncomputable def Kas : List Addr := [3, 47, 48, 49, 50, 56, 57, 59, 68, 69, 75, 76, 82, 83, 155, 156, 162, 163, 176, 177, 183, 184, 190, 191, 200, 201, 207, 208, 214, 215, 221, 222, 235, 236, 242, 243, 249, 250, 256, 257, 263, 264, 270, 271, 277, 278, 284, 285, 289, 290, 296, 297, 301, 302, 308, 309, 313, 314]

/-- the kit's tactics read the written part's values from a run: told once here -/
theorem filled : (fun (_ : OpenLaw) (_ : Params → Frag) => True) PySem.Challenge.rw_il0089_01 K := by
  k_fill
  trivial
theorem kas_ok : ∀ P, Kas = (K P).map (·.1) := fun _ => by kernel_rfl
end Mine
end -- IlBase
section -- IlR1
theorem Mine.none_IlR1 : True := by
  k_with_none
  trivial
open PySem PySem.W PyProof.Rows PySem.Calls PySem.Spec
namespace Mine
namespace F
theorem kind_issub : builtinKind "issubclass" = none := by decide +kernel
theorem plain_issub : plainId "issubclass" = true := by decide +kernel
theorem entry_issub : entryFor table "issubclass" = some Builtin.«issubclass» := entryFor_of_tree (by kernel_rfl)
theorem args_issub (a b : Value) : argsOk "issubclass" ⟨[a, b], []⟩ := by unfold argsOk; kernel_rfl
theorem kind_issubn : builtinKind "issubclass.nested" = none := by decide +kernel
theorem plain_issubn : plainId "issubclass.nested" = true := by decide +kernel
theorem entry_issubn : entryFor table "issubclass.nested" = some Builtin.«issubclass.nested» := entryFor_of_tree (by kernel_rfl)
theorem args_issubn (a b c : Value) : argsOk "issubclass.nested" ⟨[a, b, c], []⟩ := by unfold argsOk; kernel_rfl
theorem sub_str_str : isSubtype (.type "str") (.type "str") = pure true := by rw [isSubtype_type]; kernel_rfl
theorem type_str : typeOf (.type "str") = pure (.type "type") := by kernel_rfl
end F
section
variable {prog : Program} {w : World} {A : Around} {E : Value → Shared → Prop} {s : Shared}
theorem issubn_str {u : Tok} {n : Int} {Q : Fin → Shared → Prop} (h : Q (.done (.ret (.bool true))) s) :
    wpAny (model prog w) A (Builtin.«issubclass.nested» ⟨[.type "str", .type "str", .int n u], []⟩) Q E s := by
  have f1 := F.sub_str_str
  have f2 := F.type_str
  repeat (any_goals (first | assumption | wp_step))
theorem code_fn {id : String} {b : Builtin} {args : List Value} {R : Result → Shared → Prop} {s : Shared} (hk : builtinKind id = none) (hp : plainId id = true)
    (hb : entryFor table id = some b) (ha : argsOk id ⟨args, []⟩)
    (hc : wpAny (model prog w) A.in1 (b ⟨args, []⟩) (fun fin s' => ∃ v, fin = .done (.ret v) ∧ R (.ok (.ret v)) s') (fun e s' => R (.error e) s') s) :
    codeAny (model prog w) A (.call (.builtin id) ⟨args, []⟩) R s := by
  refine codeAny_call_builtin hp hb ?_
  have hfin := wpAny_mono hc (Q' := fun fin s' => match fin with
      | .done f => R (.ok f) s'
      | .again c' => c'.quiet = true ∧ codeAny (model prog w) A c' R s')
    (fun fin s' h' => by obtain ⟨v, rfl, hv⟩ := h'; exact hv) fun _ _ h' => h'
  simp only [checkBuiltinCall, hk]
  cases hsig : Manifest.signature? id with
  | none => exact wpAny_pure hfin
  | some sig =>
    simp only [argsOk, hsig] at ha
    have h2 : Bind.checkArgs id sig ⟨args, []⟩ = pure () := ha
    show wpAny _ A.in1 (Bind.checkArgs id sig ⟨args, []⟩) _ _ s
    rw [h2]; exact wpAny_pure hfin
theorem issub_outer {tp : Addr} {R : Result → Shared → Prop} {s : Shared} (ht : s.heap.get? tp = some { cls := .type "tuple", data := .seq #[.type "str", .type "bytes"] }) (hq : R (.ok (.ret (.bool true))) s) :
    wpAny (model prog w) A.in1 (Builtin.«issubclass» ⟨[.type "str", .ref tp], []⟩)
      (fun fin s' => match fin with | .done f => R (.ok f) s' | .again c' => c'.quiet = true ∧ codeAny (model prog w) A c' R s') (fun e s' => R (.error e) s') s := by
  repeat (any_goals (first | assumption | wp_step))
  refine ⟨Code.quiet_builtin _ (by decide +kernel), codeAny_builtin F.entry_issubn ?_⟩
  rw [Around.under_plain (show (Code.builtin "issubclass.nested" ⟨[.type "str", .ref tp, rawInt 0], []⟩).weight = 0 from rfl) rfl]
  obtain ⟨h, g, d, t, os⟩ := s
  have hT2 : (⟨h, g, d, t, os⟩ : Shared).TypeIs (.ref tp) "tuple" := ⟨_, ht, rfl⟩
  have f1 := F.isi_sub_tuple
  repeat (any_goals (first | assumption | wp_step))
  refine code_fn F.kind_issubn F.plain_issubn F.entry_issubn (F.args_issubn _ _ _) ?_
  refine issubn_str ⟨_, rfl, ?_⟩
  repeat (any_goals (first | assumption | wp_step))
theorem call_issub {tp : Addr} {Q : Value → Shared → Prop} (ht : s.heap.get? tp = some { cls := .type "tuple", data := .seq #[.type "str", .type "bytes"] }) (h : Q (.bool true) s) :
    wpAny (model prog w) A (call (.builtin "issubclass") [.type "str", .ref tp]) Q E s :=
  call_function_meets (S := fun _ R s => s.heap.get? tp = some { cls := .type "tuple", data := .seq #[.type "str", .type "bytes"] } ∧ R (.ok (.ret (.bool true))) s)
    F.kind_issub F.plain_issub F.entry_issub (F.args_issub _ _) (fun _ _ _ _ _ hs => issub_outer hs.1 hs.2) ⟨ht, h⟩
end
end Mine
end -- IlR1
section -- IlC1
theorem Mine.none_IlC1 : True := by
  k_with_none
  trivial
open PySem PySem.W PyProof.Rows PySem.Calls PySem.Spec
namespace Mine
noncomputable abbrev Ret (h₀ : Heap) (L : Addr) (m : Str → Option Value) (news : List (Addr × Obj)) (s : Shared) (Q : Value → Shared → Prop) (R : Tok → Value) : Prop :=
  ∀ (t : Tok) (h' : Heap) (tk' : Nat), Fr h₀ L h' m → News h₀ L h' news → Q (R t) { s with heap := h', toks := tk' }
/-- what a call of the def at f with these arguments makes: it comes back with R, and nothing that stood is turned -/
noncomputable abbrev Ct (prog : Program) (w : World) (p : Program) (loose : List Str) (mean : ExcName → Option Value) (mg mb : Str → Option Value) (f : Addr) (d u : Nat) (vs : List Value) (R : Tok → Value) : Prop :=
  ∀ (dp un : Nat) (gd : Option (List Code)) (cn : Str) (cs : Scope) (a : Addr) (ccd : Value) (cl : List (Str × Addr)) (outer : List Env) (A₀ : Around) (base h₀ : Heap) (L : Addr) (m : Str → Option Value) (news : List (Addr × Obj)) (s : Shared) (Q E : Value → Shared → Prop),
    Below A₀ base outer h₀ → Fr h₀ L s.heap m → (K w.params).In h₀ → News h₀ L s.heap news → Top p loose mean mg mb h₀ → cs.kind = .function →
    dp + d < recursionLimit → un + u < cLine → Ret h₀ L m news s Q R →
    wpAny (model prog w) (ktrTop dp un gd cn cs L a ccd cl outer) (call (.ref f) vs) Q E s

section
variable {h₀ h' : Heap} {L : Addr} {m : Str → Option Value} {news news' : List (Addr × Obj)} {s : Shared} {Q : Value → Shared → Prop} {t : Tok} {tk' : Nat} {R : Tok → Value}
theorem ret_of {v : Value} (hret : Ret h₀ L m news s Q R) (u : Tok) (e : v = R u) (F : Fr h₀ L h' m) (N : News h₀ L h' news') (sub : ∀ p ∈ news, p ∈ news') : Q v { s with heap := h', toks := tk' } :=
  e ▸ hret u h' tk' F fun p hp => N p (sub p hp)
end
section
variable {prog : Program} {w : World} {M : Model} {A : Around} {E : Value → Shared → Prop} {s : Shared} {h₀ : Heap} {L : Addr} {news : List (Addr × Obj)}
theorem k_issub {tp : Addr} {Q : Value → Shared → Prop} (N : News h₀ L s.heap news) (hm : (tp, ({ cls := .type "tuple", data := .seq [.type "str", .type "bytes"].toArray } : Obj)) ∈ news) (h : Q (.bool true) s) :
    wpAny (model prog w) A (call (.builtin "issubclass") [.type "str", .ref tp]) Q E s := call_issub (N.get hm) h
end
theorem lines_IlC1_1 : True := by
  k_with "call builtin:issubclass" => ((k_here; k_dflt (refine' k_issub ?q9k1 ?q9k2 ?_; (case q9k1 => k_asm); (case q9k2 => k_mem); k_whole)))
  k_with "mine sub" => (first | exact fun _ h => h | exact fun _ h => .tail _ h | exact fun _ h => .tail _ (.tail _ h) | exact fun _ h => .tail _ (.tail _ (.tail _ h)) | exact fun _ h => .tail _ (.tail _ (.tail _ (.tail _ h))))
  k_with "mine end" => ((refine' ret_of (by assumption) ?q9u ?q9e1 ?q9e2 ?q9e3 ?q9e4; (case q9e2 => k_asm); (case q9e3 => k_asm); (case q9e4 => walk_at "mine sub"); (case q9e1 => rfl); (try (case q9u => exact (0 : Nat)))))
  k_with "mine enter" => ((unfold Ct; intro dp un gd cn cs a ccd cl outer A₀ base h₀ L m news s Q E B F X N T hk hd hu hret; refine wpAny_call ?_; k_dflt cell_enter))
  trivial
set_option maxHeartbeats 8000000 in
theorem c_fspath (prog : Program) (w : World) (p : Program) (loose : List Str) (mean : ExcName → Option Value) (mg mb : Str → Option Value) (x : Str) (t : Tok) :
    Ct prog w p loose mean mg mb 156 1 8 [.str x t] (fun _ => .str x t) := by
  walk_at "mine enter"
  k_steps
  walk_at "mine end"
set_option maxHeartbeats 8000000 in
theorem c_get_sep (prog : Program) (w : World) (p : Program) (loose : List Str) (mean : ExcName → Option Value) (mg mb : Str → Option Value) (x : Str) (t : Tok) :
    Ct prog w p loose mean mg mb 177 1 8 [.str x t] (fun t => .str (Str.ofString "/") t) := by
  walk_at "mine enter"
  k_steps
  walk_at "mine end"

end Mine
end -- IlC1
section -- IlR2
theorem Mine.none_IlR2 : True := by
  k_with_none
  trivial
open PySem PySem.W PyProof.Rows PySem.Calls PySem.Spec PySem.Builtin PySem.Builtin.Str
namespace Mine
/-- a text by its signs -/
noncomputable def mkS (l : List Nat) : Str := ⟨l.toArray⟩
@[simp] theorem mkS_cps (l : List Nat) : (mkS l).cps.toList = l := by simp [mkS]
@[simp] theorem mkS_len (l : List Nat) : (mkS l).length = l.length := by simp [mkS, Str.length]
theorem mkS_of (x : Str) : mkS x.cps.toList = x := by cases x; simp [mkS]
theorem mkS_inj {a b : List Nat} (h : mkS a = mkS b) : a = b := by have := congrArg (fun x : Str => x.cps.toList) h; simpa using this
/-- each sign c of l turned into r -/
noncomputable def repL (c : Nat) (r l : List Nat) : List Nat := l.flatMap fun d => if d = c then r else [d]
theorem repL_append (c : Nat) (r a b : List Nat) : repL c r (a ++ b) = repL c r a ++ repL c r b := by simp [repL]
theorem repL_free (c : Nat) (r : List Nat) : ∀ l : List Nat, c ∉ l → repL c r l = l
  | [], _ => rfl
  | d :: l, h => by
    have h1 : d ≠ c := fun e => h (by simp [e])
    have h2 := repL_free c r l fun e => h (List.mem_cons_of_mem _ e)
    have : repL c r (d :: l) = (if d = c then r else [d]) ++ repL c r l := rfl
    rw [this, if_neg h1, h2]; rfl
theorem repL_join (c : Nat) (z : Str) : ∀ parts : List Str, (∀ p ∈ parts, c ∉ p.cps.toList) → repL c z.cps.toList (Str.join ⟨#[c]⟩ parts).cps.toList = (Str.join z parts).cps.toList
  | [], _ => rfl
  | [x], h => repL_free c _ _ (h x (.head _))
  | x :: y :: r, h => by
    have ih := repL_join c z (y :: r) fun p hp => h p (.tail _ hp)
    show repL c z.cps.toList (x ++ ⟨#[c]⟩ ++ Str.join ⟨#[c]⟩ (y :: r)).cps.toList = (x ++ z ++ Str.join z (y :: r)).cps.toList
    have e1 : (x ++ (⟨#[c]⟩ : Str) ++ Str.join ⟨#[c]⟩ (y :: r)).cps.toList = x.cps.toList ++ [c] ++ (Str.join ⟨#[c]⟩ (y :: r)).cps.toList := by
      show ((x.cps ++ #[c]) ++ _).toList = _
      simp
    have e2 : (x ++ z ++ Str.join z (y :: r)).cps.toList = x.cps.toList ++ z.cps.toList ++ (Str.join z (y :: r)).cps.toList := by
      show ((x.cps ++ z.cps) ++ _).toList = _
      simp
    rw [e1, e2, repL_append, repL_append, ih, repL_free c _ _ (h x (.head _))]
    have : repL c z.cps.toList [c] = z.cps.toList := by simp [repL]
    rw [this]
theorem replace_list (x z : Str) (c : Nat) : Txt.replace x ⟨#[c]⟩ z = mkS (repL c z.cps.toList x.cps.toList) := by
  rw [StrLaws.replace_one]
  conv => rhs; rw [← StrLaws.join_split x ⟨#[c]⟩]
  rw [repL_join c z _ (StrLaws.split_free x c), mkS_of]
section
variable {prog : Program} {w : World} {A : Around} {E : Value → Shared → Prop} {s : Shared} {g : Heap} {L a : Addr} {m : Str → Option Value} {news : List (Addr × Obj)} {cn : Str} {scope : Scope} {cd : Value}
/-- one line of an escape: `if c in text: text = text.replace(c, r)` -/
theorem exec_esc {n : Str} {c r : Str} {l rl : List Nat} {k : Nat} {t : Tok} {k1 k2 k3 : Nat} {p1 p2 p3 p4 p5 p6 p7 p8 p9 p10 p11 : Pos} {Q : Flow → Shared → Prop}
    (F : Fr g L s.heap m) (N : News g L s.heap news) (hk : scope.kind = .function) (hl : (envOf cn scope L a cd).kindOf n = some .local) (hd : (n == ("__debug__" : Str)) = false)
    (hm : m n = some (.str (mkS l) t)) (hc : c = mkS [k]) (hrl : r = mkS rl) (hx : l.length ≤ 1000000) (hr : rl.length ≤ 6) (hcr : (c == r) = false)
    (h : ∀ h' tk' t', Fr g L h' (fun y => if y = n then some (.str (mkS (repL k rl l)) t') else m y) → News g L h' news → Q .next { s with heap := h', toks := tk' })
    {pl : Sem Bool} (he : eval (.Call (.Attribute (.Name n p5) (Str.ofString "replace") p6) [.Constant (.str c) k2 p7, .Constant (.str r) k3 p8] [] p9) (envOf cn scope L a cd) = (do
      let ov ← eval (.Name n p5) (envOf cn scope L a cd)
      standAt p6.atName
      let (f, first) ← holding [ov] (getMethod ov (Str.ofString "replace") pl)
      callWith p9 f first (backTo p9 (starEach [.Constant (.str c) k2 p7, .Constant (.str r) k3 p8] (envOf cn scope L a cd))) [])) :
    wpAny (model prog w) A (exec (.If (.Compare (.Constant (.str c) k1 p1) [.In] [.Name n p2] p3)
      [.Assign [.Name n p4] (.Call (.Attribute (.Name n p5) (Str.ofString "replace") p6) [.Constant (.str c) k2 p7, .Constant (.str r) k3 p8] [] p9) p10] [] p11) (envOf cn scope L a cd)) Q E s := by
  have hb : (mkS l).length + ((mkS l).length + 1) * r.length ≤ 16777216 := by
    rw [hrl, mkS_len, mkS_len]
    have := Nat.mul_le_mul_left (l.length + 1) hr
    lia
  have hrep : Txt.replace (mkS l) c r = mkS (repL k rl l) := by
    rw [hc, hrl, show mkS [k] = ⟨#[k]⟩ from rfl, replace_list, mkS_cps, mkS_cps]
  refine wpAny_If (wpAny_isTrue_Compare1 (Constant_str (ld (s := { s with toks := s.toks + 1 }) F hm (in_str (wpAny_truthy_bool ?_)) hk hl hd)))
  cases ho : (occurrences (mkS l) c 0 (mkS l).length 1).isEmpty with
  | true =>
    simp only [Bool.not_true, Bool.false_eq_true, if_false]
    refine wpAny_execs_nil (h s.heap _ t ?_ N)
    have hfr : k ∉ l := by
      have := StrLaws.found_one (mkS l) k
      rw [← show mkS [k] = ⟨#[k]⟩ from rfl, ← hc, ho, mkS_cps] at this
      simpa using this
    rw [repL_free k rl l hfr]
    have : (fun y => if y = n then some (Value.str (mkS l) t) else m y) = m := by
      funext y
      by_cases e : y = n
      · subst e; simp [hm]
      · simp [e]
    rw [this]
    exact F
  | false =>
    simp only [Bool.not_false, if_true]
    refine wpAny_execs_cons (wpAny_Assign_Name ?_)
    refine MethodCall_ ?_ he
    refine ld (s := { s with toks := s.toks + 1 }) F hm ?_ hk hl hd
    refine GM.replace ?_
    refine callWith_method1 ?_
    refine spliced_more (Constant_str (spliced_more (Constant_str (spliced_none ?_))))
    dsimp only [List.cons_append, List.nil_append]
    refine SC.replace (Nat.succ_ne_zero _) (Nat.succ_ne_zero _) (Nat.ne_of_lt (Nat.lt_succ_self _)) hcr hb fun t' k' => ?_
    rw [hrep]
    exact stN F N (fun h' F' N' => wpAny_execs_nil (h h' _ t' F' N')) hk hl

end
/-- the signs spelt by a table, each by itself -/
noncomputable def escL (tbl : List (Nat × List Nat)) (l : List Nat) : List Nat := l.flatMap fun d => (tbl.lookup d).getD [d]
theorem escL_nil (l : List Nat) : escL [] l = l := by
  induction l with
  | nil => rfl
  | cons d l ih => show [d] ++ escL [] l = _; rw [ih]; rfl
noncomputable def escOk (tbl : List (Nat × List Nat)) (k : Nat) : Bool := tbl.all fun p => !p.2.contains k && p.1 != k && decide (p.2.length ≤ 6)
theorem lookup_ok {tbl : List (Nat × List Nat)} {k : Nat} (h : escOk tbl k = true) {d : Nat} {r : List Nat} (e : tbl.lookup d = some r) : k ∉ r ∧ d ≠ k ∧ r.length ≤ 6 := by
  induction tbl with
  | nil => cases e
  | cons p q ih =>
    obtain ⟨a, b⟩ := p
    unfold escOk at h
    rw [List.all_cons, Bool.and_eq_true] at h
    rw [List.lookup_cons] at e
    by_cases c : (d == a) = true
    · rw [c] at e
      cases e
      have c' : d = a := beq_iff_eq.mp c
      subst c'
      simpa [and_assoc] using h.1
    · rw [Bool.not_eq_true] at c
      rw [c] at e
      exact ih h.2 e
theorem lookup_app {tbl : List (Nat × List Nat)} {k d : Nat} {rl : List Nat} : (tbl ++ [(k, rl)]).lookup d = (tbl.lookup d).or (if d = k then some rl else none) := by
  induction tbl with
  | nil =>
    show (match d == k with | true => some rl | false => none) = _
    by_cases c : d = k
    · rw [show (d == k) = true from by simpa using c]; simp [c]
    · rw [show (d == k) = false from by simpa using c]; simp [c]
  | cons p q ih =>
    obtain ⟨a, b⟩ := p
    rw [List.cons_append, List.lookup_cons, List.lookup_cons]
    cases d == a with
    | true => rfl
    | false => exact ih
theorem escL_step {tbl : List (Nat × List Nat)} {k : Nat} {rl : List Nat} (h : escOk tbl k = true) (l : List Nat) : repL k rl (escL tbl l) = escL (tbl ++ [(k, rl)]) l := by
  induction l with
  | nil => rfl
  | cons d l ih =>
    have e1 : escL tbl (d :: l) = (tbl.lookup d).getD [d] ++ escL tbl l := rfl
    have e2 : escL (tbl ++ [(k, rl)]) (d :: l) = ((tbl ++ [(k, rl)]).lookup d).getD [d] ++ escL (tbl ++ [(k, rl)]) l := rfl
    rw [e1, e2, repL_append, ih, lookup_app]
    congr 1
    cases e : tbl.lookup d with
    | some r => exact repL_free k rl r (lookup_ok h e).1
    | none =>
      by_cases c : d = k
      · subst c; simp [repL]
      · simp [repL, c]
theorem escL_len {tbl : List (Nat × List Nat)} {k : Nat} (h : escOk tbl k = true) (l : List Nat) : (escL tbl l).length ≤ 6 * l.length := by
  induction l with
  | nil => exact Nat.le_refl _
  | cons d l ih =>
    have e1 : escL tbl (d :: l) = (tbl.lookup d).getD [d] ++ escL tbl l := rfl
    have : ((tbl.lookup d).getD [d]).length ≤ 6 := by
      cases e : tbl.lookup d with
      | some r => exact (lookup_ok h e).2.2
      | none => show 1 ≤ 6; lia
    rw [e1, List.length_append, List.length_cons]
    lia
section
variable {prog : Program} {w : World} {A : Around} {E : Value → Shared → Prop} {s : Shared} {g : Heap} {L a : Addr} {m : Str → Option Value} {news : List (Addr × Obj)} {cn : Str} {scope : Scope} {cd : Value}
theorem exec_esc2 {n : Str} {c r : Str} {l rl : List Nat} {tbl : List (Nat × List Nat)} {k : Nat} {t : Tok} {k1 k2 k3 : Nat} {p1 p2 p3 p4 p5 p6 p7 p8 p9 p10 p11 : Pos} {Q : Flow → Shared → Prop}
    (F : Fr g L s.heap m) (N : News g L s.heap news) (hk : scope.kind = .function) (hl : (envOf cn scope L a cd).kindOf n = some .local) (hd : (n == ("__debug__" : Str)) = false)
    (hm : m n = some (.str (mkS (escL tbl l)) t)) (hc : c = mkS [k]) (hrl : r = mkS rl) (hx : l.length ≤ 100000) (hr : rl.length ≤ 6) (hcr : (c == r) = false) (hok : escOk tbl k = true)
    (h : ∀ h' tk' t', Fr g L h' (fun y => if y = n then some (.str (mkS (escL (tbl ++ [(k, rl)]) l)) t') else m y) → News g L h' news → Q .next { s with heap := h', toks := tk' })
    {pl : Sem Bool} (he : eval (.Call (.Attribute (.Name n p5) (Str.ofString "replace") p6) [.Constant (.str c) k2 p7, .Constant (.str r) k3 p8] [] p9) (envOf cn scope L a cd) = (do
      let ov ← eval (.Name n p5) (envOf cn scope L a cd)
      standAt p6.atName
      let (f, first) ← holding [ov] (getMethod ov (Str.ofString "replace") pl)
      callWith p9 f first (backTo p9 (starEach [.Constant (.str c) k2 p7, .Constant (.str r) k3 p8] (envOf cn scope L a cd))) [])) :
    wpAny (model prog w) A (exec (.If (.Compare (.Constant (.str c) k1 p1) [.In] [.Name n p2] p3)
      [.Assign [.Name n p4] (.Call (.Attribute (.Name n p5) (Str.ofString "replace") p6) [.Constant (.str c) k2 p7, .Constant (.str r) k3 p8] [] p9) p10] [] p11) (envOf cn scope L a cd)) Q E s :=
  exec_esc F N hk hl hd hm hc hrl (by have := escL_len hok l; lia) hr hcr (fun h' tk' t' F' N' => h h' tk' t' (by rw [← escL_step hok]; exact F') N') he
end
theorem w_amp : Str.ofString "&" = mkS [38] := by decide +kernel
theorem w_lt : Str.ofString "<" = mkS [60] := by decide +kernel
theorem w_gt : Str.ofString ">" = mkS [62] := by decide +kernel
theorem w_quot : Str.ofString "\"" = mkS [34] := by decide +kernel
theorem w_cr : Str.ofString "\r" = mkS [13] := by decide +kernel
theorem w_lf : Str.ofString "\n" = mkS [10] := by decide +kernel
theorem w_tab : Str.ofString "\t" = mkS [9] := by decide +kernel
theorem w_rep (x : String) (l : List Nat) (h : Str.ofString x = mkS l) : Str.ofString x = mkS l := h
theorem w_amp' : Str.ofString "&amp;" = mkS [38, 97, 109, 112, 59] := by decide +kernel
theorem w_lt' : Str.ofString "&lt;" = mkS [38, 108, 116, 59] := by decide +kernel
theorem w_gt' : Str.ofString "&gt;" = mkS [38, 103, 116, 59] := by decide +kernel
theorem w_quot' : Str.ofString "&quot;" = mkS [38, 113, 117, 111, 116, 59] := by decide +kernel
theorem w_cr1 : Str.ofString "&#13;" = mkS [38, 35, 49, 51, 59] := by decide +kernel
theorem w_lf1 : Str.ofString "&#10;" = mkS [38, 35, 49, 48, 59] := by decide +kernel
theorem w_tab1 : Str.ofString "&#09;" = mkS [38, 35, 48, 57, 59] := by decide +kernel
theorem w_cr2 : Str.ofString "&#xD;" = mkS [38, 35, 120, 68, 59] := by decide +kernel
theorem w_lf2 : Str.ofString "&#xA;" = mkS [38, 35, 120, 65, 59] := by decide +kernel
theorem w_tab2 : Str.ofString "&#x9;" = mkS [38, 35, 120, 57, 59] := by decide +kernel
end Mine
end -- IlR2
section -- IlC2
theorem Mine.none_IlC2 : True := by
  k_with_none
  trivial
open PySem PySem.W PyProof.Rows PySem.Calls PySem.Spec
namespace Mine
theorem lines_IlC2_1 : True := by
  k_with "mine sub" => (first | exact fun _ h => h | exact fun _ h => .tail _ h | exact fun _ h => .tail _ (.tail _ h) | exact fun _ h => .tail _ (.tail _ (.tail _ h)) | exact fun _ h => .tail _ (.tail _ (.tail _ (.tail _ h))))
  k_with "mine end" => ((refine' ret_of (by assumption) ?q9u ?q9e1 ?q9e2 ?q9e3 ?q9e4; (case q9e2 => k_asm); (case q9e3 => k_asm); (case q9e4 => walk_at "mine sub"); (case q9e1 => rfl); (try (case q9u => exact (0 : Nat)))))
  k_with "mine enter" => ((unfold Ct; intro dp un gd cn cs a ccd cl outer A₀ base h₀ L m news s Q E B F X N T hk hd hu hret; refine wpAny_call ?_; k_dflt cell_enter))
  k_with "mine word" => (first | exact w_amp | exact w_lt | exact w_gt | exact w_quot | exact w_cr | exact w_lf | exact w_tab)
  k_with "mine spelt" => (first | exact w_amp' | exact w_lt' | exact w_gt' | exact w_quot' | exact w_cr1 | exact w_lf1 | exact w_tab1 | exact w_cr2 | exact w_lf2 | exact w_tab2)
  k_with "exec If" => ((k_here; k_dflt (refine' exec_esc2 ?q9F ?q9N ?q9k ?q9l ?q9d ?q9m ?q9c ?q9r ?q9x ?q9y ?q9z ?q9o ?_ ?q9he; (case q9he => exact rfl); (case q9F => k_asm); (case q9N => k_asm); (case q9k => exact rfl); (case q9l => exact rfl); (case q9d => decide); (case q9m => exact rfl); (case q9c => walk_at "mine word"); (case q9r => walk_at "mine spelt"); (case q9x => assumption); (case q9y => decide); (case q9z => decide); (case q9o => decide); k_whole); intro h' tk' t' F' N'; (try dsimp only [List.nil_append, List.cons_append] at F'); k_sweep))
  trivial
noncomputable def tblCdata : List (Nat × List Nat) := [(38, [38, 97, 109, 112, 59]), (60, [38, 108, 116, 59]), (62, [38, 103, 116, 59])]
noncomputable def tblAttrib : List (Nat × List Nat) := [(38, [38, 97, 109, 112, 59]), (60, [38, 108, 116, 59]), (62, [38, 103, 116, 59]), (34, [38, 113, 117, 111, 116, 59]), (13, [38, 35, 49, 51, 59]), (10, [38, 35, 49, 48, 59]), (9, [38, 35, 48, 57, 59])]
noncomputable def tblHtml : List (Nat × List Nat) := [(38, [38, 97, 109, 112, 59]), (62, [38, 103, 116, 59]), (34, [38, 113, 117, 111, 116, 59])]
noncomputable def tblCdataC : List (Nat × List Nat) := [(38, [38, 97, 109, 112, 59]), (60, [38, 108, 116, 59]), (62, [38, 103, 116, 59]), (13, [38, 35, 120, 68, 59])]
noncomputable def tblAttribC : List (Nat × List Nat) := [(38, [38, 97, 109, 112, 59]), (60, [38, 108, 116, 59]), (34, [38, 113, 117, 111, 116, 59]), (9, [38, 35, 120, 57, 59]), (10, [38, 35, 120, 65, 59]), (13, [38, 35, 120, 68, 59])]
set_option maxHeartbeats 8000000 in
theorem c0_Cdata (prog : Program) (w : World) (p : Program) (loose : List Str) (mean : ExcName → Option Value) (mg mb : Str → Option Value) (x : List Nat) (t : Tok) (hx : x.length ≤ 100000) :
    Ct prog w p loose mean mg mb 236 1 8 [.str (mkS (escL [] x)) t] (fun t => .str (mkS (escL tblCdata x)) t) := by
  walk_at "mine enter"
  k_steps
  walk_at "mine end"
theorem c_Cdata (prog : Program) (w : World) (p : Program) (loose : List Str) (mean : ExcName → Option Value) (mg mb : Str → Option Value) (x : List Nat) (t : Tok) (hx : x.length ≤ 100000) :
    Ct prog w p loose mean mg mb 236 1 8 [.str (mkS x) t] (fun t => .str (mkS (escL tblCdata x)) t) := by
  have := c0_Cdata prog w p loose mean mg mb x t hx
  rw [escL_nil] at this
  exact this
set_option maxHeartbeats 8000000 in
theorem c0_Attrib (prog : Program) (w : World) (p : Program) (loose : List Str) (mean : ExcName → Option Value) (mg mb : Str → Option Value) (x : List Nat) (t : Tok) (hx : x.length ≤ 100000) :
    Ct prog w p loose mean mg mb 243 1 8 [.str (mkS (escL [] x)) t] (fun t => .str (mkS (escL tblAttrib x)) t) := by
  walk_at "mine enter"
  k_steps
  walk_at "mine end"
theorem c_Attrib (prog : Program) (w : World) (p : Program) (loose : List Str) (mean : ExcName → Option Value) (mg mb : Str → Option Value) (x : List Nat) (t : Tok) (hx : x.length ≤ 100000) :
    Ct prog w p loose mean mg mb 243 1 8 [.str (mkS x) t] (fun t => .str (mkS (escL tblAttrib x)) t) := by
  have := c0_Attrib prog w p loose mean mg mb x t hx
  rw [escL_nil] at this
  exact this
set_option maxHeartbeats 8000000 in
theorem c0_Html (prog : Program) (w : World) (p : Program) (loose : List Str) (mean : ExcName → Option Value) (mg mb : Str → Option Value) (x : List Nat) (t : Tok) (hx : x.length ≤ 100000) :
    Ct prog w p loose mean mg mb 250 1 8 [.str (mkS (escL [] x)) t] (fun t => .str (mkS (escL tblHtml x)) t) := by
  walk_at "mine enter"
  k_steps
  walk_at "mine end"
theorem c_Html (prog : Program) (w : World) (p : Program) (loose : List Str) (mean : ExcName → Option Value) (mg mb : Str → Option Value) (x : List Nat) (t : Tok) (hx : x.length ≤ 100000) :
    Ct prog w p loose mean mg mb 250 1 8 [.str (mkS x) t] (fun t => .str (mkS (escL tblHtml x)) t) := by
  have := c0_Html prog w p loose mean mg mb x t hx
  rw [escL_nil] at this
  exact this
set_option maxHeartbeats 8000000 in
theorem c0_CdataC (prog : Program) (w : World) (p : Program) (loose : List Str) (mean : ExcName → Option Value) (mg mb : Str → Option Value) (x : List Nat) (t : Tok) (hx : x.length ≤ 100000) :
    Ct prog w p loose mean mg mb 257 1 8 [.str (mkS (escL [] x)) t] (fun t => .str (mkS (escL tblCdataC x)) t) := by
  walk_at "mine enter"
  k_steps
  walk_at "mine end"
theorem c_CdataC (prog : Program) (w : World) (p : Program) (loose : List Str) (mean : ExcName → Option Value) (mg mb : Str → Option Value) (x : List Nat) (t : Tok) (hx : x.length ≤ 100000) :
    Ct prog w p loose mean mg mb 257 1 8 [.str (mkS x) t] (fun t => .str (mkS (escL tblCdataC x)) t) := by
  have := c0_CdataC prog w p loose mean mg mb x t hx
  rw [escL_nil] at this
  exact this
set_option maxHeartbeats 8000000 in
theorem c0_AttribC (prog : Program) (w : World) (p : Program) (loose : List Str) (mean : ExcName → Option Value) (mg mb : Str → Option Value) (x : List Nat) (t : Tok) (hx : x.length ≤ 100000) :
    Ct prog w p loose mean mg mb 264 1 8 [.str (mkS (escL [] x)) t] (fun t => .str (mkS (escL tblAttribC x)) t) := by
  walk_at "mine enter"
  k_steps
  walk_at "mine end"
theorem c_AttribC (prog : Program) (w : World) (p : Program) (loose : List Str) (mean : ExcName → Option Value) (mg mb : Str → Option Value) (x : List Nat) (t : Tok) (hx : x.length ≤ 100000) :
    Ct prog w p loose mean mg mb 264 1 8 [.str (mkS x) t] (fun t => .str (mkS (escL tblAttribC x)) t) := by
  have := c0_AttribC prog w p loose mean mg mb x t hx
  rw [escL_nil] at this
  exact this

end Mine
end -- IlC2
section -- IlL
theorem Mine.none_IlL : True := by
  k_with_none
  trivial
open PySem PySem.W PyProof.Rows PySem.Calls PySem.Spec PySem.Builtin PySem.Builtin.Str
namespace Mine
theorem mkS_append (a b : List Nat) : mkS a ++ mkS b = mkS (a ++ b) := by
  show Str.mk (a.toArray ++ b.toArray) = _
  simp [mkS]
theorem mkS_beq (a b : List Nat) : (mkS a == mkS b) = decide (a = b) := by
  rw [Bool.eq_iff_iff, beq_iff_eq, decide_eq_true_eq]
  exact ⟨mkS_inj, fun e => e ▸ rfl⟩
/-! slices -/
theorem slice_nat (l : List Nat) (a b : Nat) : Txt.slice (mkS l) (some (a : Int)) (some (b : Int)) = mkS ((l.take b).drop a) := by
  show StrLaws.sliceText (mkS l) _ _ = _
  have clip : ∀ k : Nat, (if ((k : Int)) < 0 then (k : Int) + ((mkS l).length : Int) else k) = k := fun k => if_neg (by lia)
  have e : strSliceIndices (some (a : Int)) (some (b : Int)) 1 (mkS l).length = strSliceIndices (some ((min a l.length : Nat) : Int)) (some ((min b l.length : Nat) : Int)) 1 (mkS l).length := by
    unfold strSliceIndices
    rw [mkS_len]
    dsimp only
    have f : ∀ k : Nat, max (0 : Int) (min (if (k : Int) < 0 then (k : Int) + (l.length : Int) else k) (l.length : Int)) = max 0 (min (if ((min k l.length : Nat) : Int) < 0 then ((min k l.length : Nat) : Int) + (l.length : Int) else ((min k l.length : Nat) : Int)) (l.length : Int)) := fun k => by
      rw [if_neg (by lia), if_neg (by lia)]; lia
    simp only [Int.zero_lt_one, if_true, gt_iff_lt, f a, f b]
  unfold StrLaws.sliceText
  rw [e]
  by_cases hab : min a l.length ≤ min b l.length
  · have := StrLaws.sliceText_nat (mkS l) hab (by rw [mkS_len]; lia)
    unfold StrLaws.sliceText at this
    rw [this, mkS_cps]
    show mkS _ = mkS _
    congr 1
    rw [← List.drop_take]
    · have h1 : List.take (min b l.length) l = List.take b l := by
        rw [List.take_eq_take_iff]; lia
      rw [h1]
      by_cases c : a ≤ l.length
      · rw [Nat.min_eq_left c]
      · have hb : (l.take b).length ≤ a := by rw [List.length_take]; lia
        rw [List.drop_eq_nil_of_le hb, List.drop_eq_nil_of_le (by rw [List.length_take]; lia)]
  · have hlt : b < a := by lia
    have hs : strSliceIndices (some ((min a l.length : Nat) : Int)) (some ((min b l.length : Nat) : Int)) 1 (mkS l).length = [] := by
      unfold strSliceIndices sliceRange
      rw [mkS_len]
      simp only [Int.zero_lt_one, if_true, gt_iff_lt]
      rw [if_neg (by lia), if_neg (by lia)]
      simp
    rw [hs]
    have hn : ((1 : Int) == 1 && (([] : List Nat).length == (mkS l).length)) = false := by
      rw [mkS_len]
      have : l.length ≠ 0 := by lia
      simp [this.symm]
    rw [hn]
    simp only [Bool.false_eq_true, if_false, List.filterMap_nil]
    show mkS [] = mkS _
    rw [List.drop_eq_nil_of_le (by rw [List.length_take]; lia)]
theorem slice_to (l : List Nat) (b : Nat) : Txt.slice (mkS l) none (some (b : Int)) = mkS (l.take b) := by
  have e : Txt.slice (mkS l) none (some (b : Int)) = Txt.slice (mkS l) (some ((0 : Nat) : Int)) (some (b : Int)) := by
    unfold Txt.slice
    rw [StrLaws.sliceIdx_none_lo]; rfl
  rw [e, slice_nat, List.drop_zero]
theorem slice_from (l : List Nat) (a : Nat) : Txt.slice (mkS l) (some (a : Int)) none = mkS (l.drop a) := by
  have e : Txt.slice (mkS l) (some (a : Int)) none = Txt.slice (mkS l) (some (a : Int)) (some (l.length : Int)) := by
    unfold Txt.slice
    rw [StrLaws.sliceIdx_none_hi, mkS_len]
  rw [e, slice_nat, List.take_length]

/-! split and join -/
noncomputable def splitL (c : Nat) : List Nat → List (List Nat)
  | [] => [[]]
  | d :: l => if d = c then [] :: splitL c l else match splitL c l with
    | [] => [[d]]
    | p :: r => (d :: p) :: r
noncomputable def joinL (sep : List Nat) : List (List Nat) → List Nat
  | [] => []
  | [x] => x
  | x :: y :: r => x ++ sep ++ joinL sep (y :: r)
theorem splitL_ne (c : Nat) (l : List Nat) : splitL c l ≠ [] := by
  induction l with
  | nil => simp [splitL]
  | cons d l ih =>
    unfold splitL
    split
    · simp
    · split <;> simp
theorem splitL_app (c : Nat) (x : List Nat) (h : c ∉ x) (l : List Nat) : splitL c (x ++ c :: l) = x :: splitL c l := by
  induction x with
  | nil => simp [splitL]
  | cons d x ih =>
    have h1 : d ≠ c := fun e => h (by simp [e])
    have h2 := ih fun e => h (List.mem_cons_of_mem _ e)
    show (if d = c then [] :: splitL c (x ++ c :: l) else match splitL c (x ++ c :: l) with
      | [] => [[d]]
      | p :: r => (d :: p) :: r) = _
    rw [if_neg h1, h2]
theorem splitL_free (c : Nat) (x : List Nat) (h : c ∉ x) : splitL c x = [x] := by
  induction x with
  | nil => simp [splitL]
  | cons d x ih =>
    have h1 : d ≠ c := fun e => h (by simp [e])
    have h2 := ih fun e => h (List.mem_cons_of_mem _ e)
    unfold splitL
    rw [if_neg h1, h2]
theorem splitL_join (c : Nat) : ∀ ps : List (List Nat), ps ≠ [] → (∀ p ∈ ps, c ∉ p) → splitL c (joinL [c] ps) = ps
  | [], h, _ => absurd rfl h
  | [x], _, h => splitL_free c x (h x (.head _))
  | x :: y :: r, _, h => by
    show splitL c (x ++ [c] ++ joinL [c] (y :: r)) = _
    rw [List.append_assoc]
    show splitL c (x ++ c :: joinL [c] (y :: r)) = _
    rw [splitL_app c x (h x (.head _)), splitL_join c (y :: r) (by simp) fun p hp => h p (.tail _ hp)]
theorem join_list (z : Str) : ∀ ps : List (List Nat), Str.join z (ps.map mkS) = mkS (joinL z.cps.toList ps)
  | [] => rfl
  | [x] => rfl
  | x :: y :: r => by
    have ih := join_list z (y :: r)
    show mkS x ++ z ++ Str.join z ((y :: r).map mkS) = mkS (x ++ z.cps.toList ++ joinL z.cps.toList (y :: r))
    rw [ih, ← mkS_append, ← mkS_append, mkS_of z]
theorem split_list (l : List Nat) (c : Nat) : Txt.split (mkS l) ⟨#[c]⟩ = (splitL c l).map mkS := by
  have hj := StrLaws.join_split (mkS l) ⟨#[c]⟩
  have hf := StrLaws.split_free (mkS l) c
  have hne : Txt.split (mkS l) ⟨#[c]⟩ ≠ [] := by
    intro e
    by_cases hl : l = []
    · subst hl
      revert e
      unfold Txt.split
      have : (decide ((mkS []).length < (⟨#[c]⟩ : Str).length) || decide (strKind (mkS []) < strKind ⟨#[c]⟩)) = true := by simp [mkS, Str.length]
      rw [if_pos this]
      simp
    · rw [e] at hj
      exact hl (mkS_inj (a := []) (b := l) hj).symm
  generalize Txt.split (mkS l) ⟨#[c]⟩ = parts at hj hf hne
  have hm : parts = (parts.map fun p => p.cps.toList).map mkS := by
    rw [List.map_map]
    have : (mkS ∘ fun p : Str => p.cps.toList) = _root_.id := by funext p; exact mkS_of p
    rw [this, List.map_id]
  rw [hm, join_list] at hj
  have hl : joinL [c] (parts.map fun p => p.cps.toList) = l := mkS_inj hj
  rw [← hl, splitL_join c _ (by simpa using hne) (by
    intro p hp
    obtain ⟨q, hq, rfl⟩ := List.mem_map.mp hp
    exact hf q hq)]
  exact hm
/-! the last place of a sign -/
noncomputable def rfindL (c : Nat) : List Nat → Int
  | [] => -1
  | d :: l => if 0 ≤ rfindL c l then rfindL c l + 1 else if d = c then 0 else -1
theorem rfindL_spec (c : Nat) : ∀ l : List Nat, (rfindL c l = -1 ∧ c ∉ l) ∨ ∃ i : Nat, rfindL c l = (i : Int) ∧ l[i]? = some c ∧ ∀ k, i < k → l[k]? ≠ some c
  | [] => .inl ⟨rfl, by simp⟩
  | d :: l => by
    rcases rfindL_spec c l with ⟨h, hn⟩ | ⟨i, h, hi, hk⟩
    · unfold rfindL
      rw [h]
      by_cases e : d = c
      · refine .inr ⟨0, by simp [e], by simp [e], fun k hk e2 => ?_⟩
        obtain ⟨j, rfl⟩ : ∃ j, k = j + 1 := ⟨k - 1, by lia⟩
        exact hn (List.mem_of_getElem? (by simpa using e2))
      · exact .inl ⟨by simp [e], by simp [hn, Ne.symm e]⟩
    · unfold rfindL
      rw [h]
      refine .inr ⟨i + 1, by simp, by simpa using hi, fun k hk' e2 => ?_⟩
      obtain ⟨j, rfl⟩ : ∃ j, k = j + 1 := ⟨k - 1, by lia⟩
      exact hk j (by lia) (by simpa using e2)
theorem at_one (l : List Nat) (c i : Nat) : StrLaws.At (mkS l) ⟨#[c]⟩ l.length i ↔ l[i]? = some c := by
  unfold StrLaws.At
  rw [StrLaws.subAt_eq, mkS_cps]
  show i + 1 ≤ l.length ∧ ((l.drop i).take 1 == [c]) = true ↔ _
  rw [beq_iff_eq]
  constructor
  · rintro ⟨h1, h2⟩
    have : (l.drop i).head? = some c := by
      cases hd : l.drop i with
      | nil => rw [hd] at h2; simp at h2
      | cons a t => rw [hd] at h2; simp at h2; simp [h2]
    rw [List.head?_drop] at this
    exact this
  · intro h
    have hlt : i < l.length := by
      rcases Nat.lt_or_ge i l.length with q | q
      · exact q
      · rw [List.getElem?_eq_none q] at h; cases h
    refine ⟨hlt, ?_⟩
    rw [List.getElem?_eq_getElem hlt] at h
    rw [List.drop_eq_getElem_cons hlt, List.take_succ_cons, List.take_zero, Option.some.inj h]
theorem rfind_list (l : List Nat) (c : Nat) : Txt.rfind (mkS l) ⟨#[c]⟩ = rfindL c l := by
  unfold Txt.rfind
  have sp := StrLaws.last_spec (mkS l) ⟨#[c]⟩
  rw [mkS_len] at sp
  rw [mkS_len]
  rcases rfindL_spec c l with ⟨h, hn⟩ | ⟨i, h, hi, hk⟩
  · rcases sp with ⟨e, _⟩ | ⟨j, e, hj, _⟩
    · rw [e, h]
    · exact absurd (List.mem_of_getElem? ((at_one l c j).mp hj)) hn
  · rcases sp with ⟨_, hn⟩ | ⟨j, e, hj, hk'⟩
    · exact absurd ((at_one l c i).mpr hi) (hn i)
    · rw [e, h]
      have h1 := (at_one l c j).mp hj
      rcases Nat.lt_trichotomy i j with q | q | q
      · exact absurd h1 (hk j q)
      · rw [q]
      · exact absurd ((at_one l c i).mpr hi) (hk' i q)
theorem rfindL_lt (c : Nat) (l : List Nat) : -1 ≤ rfindL c l ∧ rfindL c l < l.length := by
  rcases rfindL_spec c l with ⟨h, _⟩ | ⟨i, h, hi, _⟩
  · rw [h]; lia
  · rw [h]
    have : i < l.length := by
      rcases Nat.lt_or_ge i l.length with q | q
      · exact q
      · rw [List.getElem?_eq_none q] at hi; cases hi
    lia
end Mine
end -- IlL
section -- IlR3
theorem Mine.none_IlR3 : True := by
  k_with_none
  trivial
open PySem PySem.W PyProof.Rows PySem.Calls PySem.Spec PySem.Builtin PySem.Builtin.Str
namespace Mine
theorem len_line {n : Nat} (h : n ≤ 10000000) : n ≤ sizeLine := by rw [sizeLine_eq]; lia
noncomputable def rstripL (c : Nat) (l : List Nat) : List Nat := (l.reverse.dropWhile (· == c)).reverse
noncomputable def lstripL (c : Nat) (l : List Nat) : List Nat := l.dropWhile (· == c)
theorem takeWhile_len (p : Nat → Bool) (l : List Nat) : (l.takeWhile p).length ≤ l.length := (List.takeWhile_sublist p).length_le
theorem drop_takeWhile (p : Nat → Bool) : ∀ l : List Nat, l.drop (l.takeWhile p).length = l.dropWhile p
  | [] => rfl
  | d :: l => by
    rw [List.takeWhile_cons, List.dropWhile_cons]
    cases p d with
    | true => exact drop_takeWhile p l
    | false => rfl
theorem beq_dec (d c : Nat) : (d == c) = decide (d = c) := by rw [Bool.eq_iff_iff, beq_iff_eq, decide_eq_true_eq]
theorem contains_one (c : Nat) : (mkS [c]).cps.contains = fun d => d == c := by
  funext d
  show (#[c] : Array Nat).contains d = (d == c)
  rw [beq_dec]; simp [eq_comm]
theorem rstrip_list (l : List Nat) (c : Nat) : Txt.rstripChars (mkS l) (mkS [c]) = mkS (rstripL c l) := by
  have key : PySem.stripped (fun d => d == c) false true (mkS l) = mkS (rstripL c l) := by
    rw [← mkS_of (PySem.stripped _ _ _ _)]
    congr 1
    unfold PySem.stripped stripLo stripHi
    rw [StrLaws.strSub_toList, mkS_cps, mkS_len]
    simp only [Bool.false_eq_true, if_false, if_true, List.drop_zero, Nat.sub_zero]
    unfold rstripL
    rw [← drop_takeWhile, List.drop_reverse, List.reverse_reverse]
  unfold Txt.rstripChars Txt.stripBy
  rw [contains_one]
  split
  · rename_i h
    rw [← key]
    unfold stripSame at h
    rw [Bool.and_eq_true, beq_iff_eq, beq_iff_eq] at h
    unfold PySem.stripped
    rw [h.1] at *
    rw [h.2, ← mkS_of (strSub _ _ _), StrLaws.strSub_toList, mkS_cps, mkS_len]
    simp
  · exact key
theorem lstrip_list (l : List Nat) (c : Nat) : Txt.lstripChars (mkS l) (mkS [c]) = mkS (lstripL c l) := by
  have key : PySem.stripped (fun d => d == c) true false (mkS l) = mkS (lstripL c l) := by
    rw [← mkS_of (PySem.stripped _ _ _ _)]
    congr 1
    unfold PySem.stripped stripLo stripHi
    rw [StrLaws.strSub_toList, mkS_cps, mkS_len]
    simp only [Bool.false_eq_true, if_false, if_true]
    unfold lstripL
    rw [← drop_takeWhile, List.take_of_length_le]
    rw [List.length_drop]
    exact Nat.le_refl _
  unfold Txt.lstripChars Txt.stripBy
  rw [contains_one]
  split
  · rename_i h
    rw [← key]
    unfold stripSame at h
    rw [Bool.and_eq_true, beq_iff_eq, beq_iff_eq] at h
    unfold PySem.stripped
    rw [h.2, h.1, ← mkS_of (strSub _ _ _), StrLaws.strSub_toList, mkS_cps, mkS_len]
    simp
  · exact key
theorem starts_list (l : List Nat) (c : Nat) : Txt.startswith (mkS l) (mkS [c]) = decide (l.head? = some c) := by
  unfold Txt.startswith
  rw [StrLaws.subAt_eq, mkS_cps, mkS_cps, mkS_len, mkS_len]
  cases l with
  | nil => simp
  | cons d l => simp [beq_dec]
theorem ends_list (l : List Nat) (c : Nat) : Txt.endswith (mkS l) (mkS [c]) = decide (l.getLast? = some c) := by
  unfold Txt.endswith
  rw [StrLaws.subAt_eq, mkS_cps, mkS_cps, mkS_len, mkS_len]
  rcases List.eq_nil_or_concat l with rfl | ⟨r, d, rfl⟩
  · simp
  · simp [beq_dec]
/-- values of texts -/
noncomputable def tv (ps : List (List Nat × Tok)) : List Value := ps.map fun p => .str (mkS p.1) p.2
theorem tv_cons (p : List Nat × Tok) (ps : List (List Nat × Tok)) : tv (p :: ps) = .str (mkS p.1) p.2 :: tv ps := rfl
theorem tv_append (a b : List (List Nat × Tok)) : tv (a ++ b) = tv a ++ tv b := by simp [tv]
@[simp] theorem tv_length (ps : List (List Nat × Tok)) : (tv ps).length = ps.length := by simp [tv]
theorem tv_strs : ∀ ps : List (List Nat × Tok), StrsAre (tv ps) (ps.map fun p => mkS p.1)
  | [] => .nil
  | p :: ps => .cons _ _ (tv_strs ps)
theorem mul_list (c : Nat) (n : Int) : Txt.mul (mkS [c]) n = mkS (List.replicate n.toNat c) := by
  unfold Txt.mul
  split
  · have : n.toNat = 0 := by lia
    rw [this]; rfl
  · split
    · rename_i h1 h2
      have : n = 1 := by
        rw [mkS_len] at h2
        simpa using h2
      subst this; rfl
    · have fold : ∀ (k : Nat) (acc : Array Nat), (List.replicate k (mkS [c]).cps).foldl (· ++ ·) acc = acc ++ (List.replicate k c).toArray := by
        intro k
        induction k with
        | zero => intro acc; simp
        | succ k ih =>
          intro acc
          rw [List.replicate_succ, List.foldl_cons, ih, List.replicate_succ]
          show acc ++ #[c] ++ _ = _
          apply Array.toList_inj.mp
          simp
      rw [fold]
      simp [mkS]
section
variable {prog : Program} {w : World} {A : Around} {E : Value → Shared → Prop} {s : Shared} {h₀ : Heap} {L : Addr} {m : Str → Option Value} {news : List (Addr × Obj)} {l : List Nat} {y : Str} {t u : Tok} {c : Nat} {value slice : Expr}
theorem t_rfind {Q : Value → Shared → Prop} (hy : y = mkS [c]) (h : ∀ r, r = rfindL c l → -1 ≤ r → r < l.length → Q (.int r s.toks) { s with toks := s.toks + 1 }) :
    wpAny (model prog w) A (call (.builtin "str.rfind") [.str (mkS l) t, .str y u]) Q E s := by
  refine SC.rfind ?_
  rw [hy, show mkS [c] = ⟨#[c]⟩ from rfl, rfind_list]
  exact h _ rfl (rfindL_lt c l).1 (rfindL_lt c l).2
theorem t_slice_from {i : Int} {ui : Tok} {Q : Value → Shared → Prop} (F : Fr h₀ L s.heap m) (N : News h₀ L s.heap news) (hx : l.length ≤ 10000000) (hi : 0 ≤ i)
    (h : ∀ h' t' k, Fr h₀ L h' m → News h₀ L h' news → Q (.str (mkS (l.drop i.toNat)) t') { s with heap := h', toks := k })
    (hs : subscripted slice false (.str (mkS l) t) (.ref s.heap.objs.size) = operate [.ref s.heap.objs.size, .str (mkS l) t] (getItem (.str (mkS l) t) (.ref s.heap.objs.size)))
    (ht : ∀ r, letTemporaryGo value (.str (mkS l) t) r = pure ()) :
    wpAny (model prog w) A (subscriptTail value slice (.str (mkS l) t) (.ref s.heap.objs.size)) Q E { s with heap := s.heap.push { cls := .type "slice", data := .fields #[.int i ui, .none, .none] } } := by
  refine slice_strN_sn F N (fun h' t' k F' N' => ?_) hs ht (by rw [mkS_len]; exact len_line hx)
  obtain ⟨n, rfl⟩ := Int.eq_ofNat_of_zero_le hi
  rw [slice_from]
  exact h h' t' k F' N'
theorem t_slice_to {j : Int} {uj : Tok} {Q : Value → Shared → Prop} (F : Fr h₀ L s.heap m) (N : News h₀ L s.heap news) (hx : l.length ≤ 10000000) (hj : 0 ≤ j)
    (h : ∀ h' t' k, Fr h₀ L h' m → News h₀ L h' news → Q (.str (mkS (l.take j.toNat)) t') { s with heap := h', toks := k })
    (hs : subscripted slice false (.str (mkS l) t) (.ref s.heap.objs.size) = operate [.ref s.heap.objs.size, .str (mkS l) t] (getItem (.str (mkS l) t) (.ref s.heap.objs.size)))
    (ht : ∀ r, letTemporaryGo value (.str (mkS l) t) r = pure ()) :
    wpAny (model prog w) A (subscriptTail value slice (.str (mkS l) t) (.ref s.heap.objs.size)) Q E { s with heap := s.heap.push { cls := .type "slice", data := .fields #[.none, .int j uj, .none] } } := by
  refine slice_strN_ns F N (fun h' t' k F' N' => ?_) hs ht (by rw [mkS_len]; exact len_line hx)
  obtain ⟨n, rfl⟩ := Int.eq_ofNat_of_zero_le hj
  rw [slice_to]
  exact h h' t' k F' N'
theorem t_slice_mid {i j : Int} {ui uj : Tok} {Q : Value → Shared → Prop} (F : Fr h₀ L s.heap m) (N : News h₀ L s.heap news) (hx : l.length ≤ 10000000) (hi : 0 ≤ i) (hj : 0 ≤ j)
    (h : ∀ h' t' k, Fr h₀ L h' m → News h₀ L h' news → Q (.str (mkS ((l.take j.toNat).drop i.toNat)) t') { s with heap := h', toks := k })
    (hs : subscripted slice false (.str (mkS l) t) (.ref s.heap.objs.size) = operate [.ref s.heap.objs.size, .str (mkS l) t] (getItem (.str (mkS l) t) (.ref s.heap.objs.size)))
    (ht : ∀ r, letTemporaryGo value (.str (mkS l) t) r = pure ()) :
    wpAny (model prog w) A (subscriptTail value slice (.str (mkS l) t) (.ref s.heap.objs.size)) Q E { s with heap := s.heap.push { cls := .type "slice", data := .fields #[.int i ui, .int j uj, .none] } } := by
  refine slice_strN_ss F N (fun h' t' k F' N' => ?_) hs ht (by rw [mkS_len]; exact len_line hx)
  obtain ⟨n, rfl⟩ := Int.eq_ofNat_of_zero_le hi
  obtain ⟨k', rfl⟩ := Int.eq_ofNat_of_zero_le hj
  rw [slice_nat]
  exact h h' t' k F' N'
theorem t_truthy {Q : Bool → Shared → Prop} (hx : l.length ≤ 10000000) (h : ∀ k, Q (decide (l ≠ [])) { s with toks := k }) : wpAny (model prog w) A (PySem.truthy (.str (mkS l) t)) Q E s := by
  refine SBL.truthy (by rw [mkS_len]; lia) ?_
  have : ((((mkS l).length : Nat) : Int) != 0) = decide (l ≠ []) := by
    rw [mkS_len]
    cases l <;> simp
    lia
  rw [this]
  exact h _
theorem t_len {Q : Value → Shared → Prop} (hx : l.length ≤ 10000000) (h : ∀ k, Q (.int (l.length : Nat) k) { s with toks := k + 1 }) : wpAny (model prog w) A (call (.builtin "len") [.str (mkS l) t]) Q E s := by
  refine SBL.len (by rw [mkS_len]; lia) ?_
  rw [mkS_len]
  exact h _
theorem t_ne {b : List Nat} {Q : Value → Shared → Prop} (hy : y = mkS b) (h : Q (.bool (decide (l ≠ b))) s) : wpAny (model prog w) A (compareOp .NotEq (.str (mkS l) t) (.str y u)) Q E s := by
  refine ne_str ?_
  have : (mkS l != y) = decide (l ≠ b) := by rw [hy, bne, mkS_beq]; simp
  rw [this]
  exact h
theorem t_eq {b : List Nat} {Q : Value → Shared → Prop} (hy : y = mkS b) (h : Q (.bool (decide (l = b))) s) : wpAny (model prog w) A (compareOp .Eq (.str (mkS l) t) (.str y u)) Q E s := by
  refine eq_str ?_
  rw [hy, mkS_beq]
  exact h
theorem t_add {a b : List Nat} {x : Str} {Q : Value → Shared → Prop} (hx : x = mkS a) (hy : y = mkS b) (hl : a.length + b.length ≤ 10000000) (h : ∀ t' k, Q (.str (mkS (a ++ b)) t') { s with toks := k }) :
    wpAny (model prog w) A (binaryOp .Add (.str x t) (.str y u)) Q E s := by
  refine PyProof.Rows.add_str (fun t' k => ?_) (by rw [hx, hy, mkS_len, mkS_len]; exact len_line hl)
  rw [hx, hy, mkS_append]
  exact h t' k
theorem t_iadd {a b : List Nat} {x : Str} {Q : Value → Shared → Prop} (hx : x = mkS a) (hy : y = mkS b) (hl : a.length + b.length ≤ 10000000) (h : ∀ t' k, Q (.str (mkS (a ++ b)) t') { s with toks := k }) :
    wpAny (model prog w) A (inplaceOp .Add (.str x t) (.str y u)) Q E s := by
  refine PyProof.Rows.iadd_str (fun t' k => ?_) (by rw [hx, hy, mkS_len, mkS_len]; exact len_line hl)
  rw [hx, hy, mkS_append]
  exact h t' k
theorem t_rstrip {Q : Value → Shared → Prop} (hy : y = mkS [c]) (hx : l.length ≤ 10000000) (h : ∀ t' k, Q (.str (mkS (rstripL c l)) t') { s with toks := k }) :
    wpAny (model prog w) A (call (.builtin "str.rstrip") [.str (mkS l) t, .str y u]) Q E s := by
  refine SC.rstripChars (fun t' k => ?_) (by rw [mkS_len]; exact len_line hx)
  rw [hy, rstrip_list]
  exact h t' k
theorem t_lstrip {Q : Value → Shared → Prop} (hy : y = mkS [c]) (hx : l.length ≤ 10000000) (h : ∀ t' k, Q (.str (mkS (lstripL c l)) t') { s with toks := k }) :
    wpAny (model prog w) A (call (.builtin "str.lstrip") [.str (mkS l) t, .str y u]) Q E s := by
  refine SC.lstripChars (fun t' k => ?_) (by rw [mkS_len]; exact len_line hx)
  rw [hy, lstrip_list]
  exact h t' k
theorem t_starts {Q : Value → Shared → Prop} (hy : y = mkS [c]) (h : Q (.bool (decide (l.head? = some c))) s) :
    wpAny (model prog w) A (call (.builtin "str.startswith") [.str (mkS l) t, .str y u]) Q E s := by
  refine SC.startswith ?_
  rw [hy, starts_list]
  exact h
theorem t_ends {Q : Value → Shared → Prop} (hy : y = mkS [c]) (h : Q (.bool (decide (l.getLast? = some c))) s) :
    wpAny (model prog w) A (call (.builtin "str.endswith") [.str (mkS l) t, .str y u]) Q E s := by
  refine SC.endswith ?_
  rw [hy, ends_list]
  exact h
theorem t_mul {n : Int} {Q : Value → Shared → Prop} (hy : y = mkS [c]) (h0 : 0 ≤ n) (hn : n ≤ 10000000) (h : ∀ t' k, Q (.str (mkS (List.replicate n.toNat c)) t') { s with toks := k }) :
    wpAny (model prog w) A (binaryOp .Mult (.str y t) (.int n u)) Q E s := by
  refine SB.mul (mulOk_of 1 10000000 (by rw [hy, mkS_len]; exact Nat.le_refl _) hn (by lia) (by lia) (by lia)) fun t' k => ?_
  rw [hy, mul_list]
  exact h t' k
theorem t_split {Q : Value → Shared → Prop} (F : Fr h₀ L s.heap m) (N : News h₀ L s.heap news) (hy : y = mkS [c]) (hx : l.length ≤ 10000000)
    (h : ∀ ps h' k, ps.map (·.1) = splitL c l → Fr h₀ L h' m → News h₀ L h' ((s.heap.objs.size, { cls := .type "list", data := .seq (tv ps).toArray }) :: news) → Q (.ref s.heap.objs.size) { s with heap := h', toks := k }) :
    wpAny (model prog w) A (call (.builtin "str.split") [.str (mkS l) t, .str y u]) Q E s := by
  refine splitN1 F N (by rw [hy, mkS_len]; rfl) (fun q h' k e F' N' => ?_) (by rw [mkS_len, sizeLine_eq]; lia)
  rw [hy, show mkS [c] = ⟨#[c]⟩ from rfl, split_list] at e
  have e2 : strValues q = tv (q.map fun p => (p.1.cps.toList, p.2)) := by
    unfold strValues tv
    rw [List.map_map]
    apply List.map_congr_left
    intro p _
    show Value.str p.1 p.2 = Value.str (mkS p.1.cps.toList) p.2
    rw [mkS_of]
  rw [e2] at N'
  refine h _ h' k ?_ F' N'
  rw [List.map_map]
  have : (q.map (·.1)).map (fun x : Str => x.cps.toList) = splitL c l := by
    rw [e, List.map_map]
    have : ((fun x : Str => x.cps.toList) ∘ mkS) = _root_.id := by funext p; exact mkS_cps p
    rw [this, List.map_id]
  rw [← this, List.map_map]
  rfl
theorem t_join {D : Addr} {n : Nat} {ps : List (List Nat × Tok)} {b : List Nat} {Q : Value → Shared → Prop} (N : News h₀ L s.heap news) (hm : (D, ({ cls := .type "list", data := .seq (tv ps).toArray n } : Obj)) ∈ news) (hy : y = mkS b)
    (hl : ((ps.map (·.1)).map List.length).sum + ps.length * b.length ≤ 10000000) (h : ∀ t' k, Q (.str (mkS (joinL b (ps.map (·.1)))) t') { s with toks := k }) :
    wpAny (model prog w) A (call (.builtin "str.join") [.str y u, .ref D]) Q E s := by
  refine PyProof.Rows.join_list (ys := ps.map fun p => mkS p.1) (N.isList hm) (tv_strs ps) ?_ fun t' k => ?_
  · rw [List.map_map, List.length_map, hy, mkS_len]
    have : (List.map (Str.length ∘ fun p : List Nat × Tok => mkS p.1) ps) = (ps.map (·.1)).map List.length := by
      rw [List.map_map]
      apply List.map_congr_left
      intro p _
      exact mkS_len p.1
    rw [this]
    lia
  · have : Txt.join y (ps.map fun p => mkS p.1) = mkS (joinL b (ps.map (·.1))) := by
      unfold Txt.join
      rw [StrLaws.glued_eq_join, hy]
      have := join_list (mkS b) (ps.map (·.1))
      rw [List.map_map, mkS_cps] at this
      exact this
    rw [this]
    exact h t' k
theorem t_item {i : Int} {Q : Value → Shared → Prop} (hx : l.length ≤ 10000000) (h0 : 0 ≤ i) (h1 : i < l.length) (h : ∀ c, l[i.toNat]? = some c → Q (.str (mkS [c]) s.toks) { s with toks := s.toks + 1 })
    (hs : subscripted slice false (.str (mkS l) t) (.int i u) = operate [.str (mkS l) t, .int i u] (getItem (.str (mkS l) t) (.int i u)))
    (ht : ∀ r, letTemporaryGo value (.str (mkS l) t) r = pure ()) :
    wpAny (model prog w) A (subscriptTail value slice (.str (mkS l) t) (.int i u)) Q E s := by
  refine item_str (by unfold fitsSsize; simp; lia) (by rw [mkS_len]; lia) (by rw [mkS_len]; exact h1) (fun _ => ?_) hs ht
  have hlt : i.toNat < l.length := by lia
  have : Txt.item (mkS l) i = mkS [l[i.toNat]] := by
    unfold Txt.item Txt.charAt
    rw [StrLaws.at_nonneg (n := l[i.toNat]) h0]
    · rfl
    · show l.toArray[i.toNat]? = _
      rw [List.getElem?_toArray, List.getElem?_eq_getElem hlt]
  rw [this]
  exact h _ (List.getElem?_eq_getElem hlt)
end
theorem w_slash : Str.ofString "/" = mkS [47] := by decide +kernel
theorem w_dot : Str.ofString "." = mkS [46] := by decide +kernel
theorem w_dotdot : Str.ofString ".." = mkS [46, 46] := by decide +kernel
theorem w_nil : Str.ofString "" = mkS [] := by decide +kernel
section
variable {prog : Program} {w : World} {p : Program} {loose : List Str} {mean : ExcName → Option Value} {mg mb : Str → Option Value} {f : Addr} {d u : Nat} {vs : List Value} {R : Tok → Value}
  {dp un : Nat} {gd : Option (List Code)} {cn : Str} {cs : Scope} {a : Addr} {ccd : Value} {cl : List (Str × Addr)} {outer : List Env} {A₀ : Around} {base h₀ : Heap} {L : Addr} {m : Str → Option Value} {news : List (Addr × Obj)} {s : Shared} {Q E : Value → Shared → Prop}
theorem use_ct (C : Ct prog w p loose mean mg mb f d u vs R) (B : Below A₀ base outer h₀) (F : Fr h₀ L s.heap m) (X : (K w.params).In h₀) (N : News h₀ L s.heap news) (T : Top p loose mean mg mb h₀) (hk : cs.kind = .function)
    (hd : dp + d < recursionLimit) (hu : un + u < cLine) (hret : ∀ (t : Tok) (h' : Heap) (tk' : Nat), Fr h₀ L h' m → News h₀ L h' news → Q (R t) { s with heap := h', toks := tk' }) :
    wpAny (model prog w) (ktrTop dp un gd cn cs L a ccd cl outer) (call (.ref f) vs) Q E s := C _ _ _ _ _ _ _ _ _ _ _ _ _ _ _ _ _ _ B F X N T hk hd hu hret
end
theorem veq {a b : List Nat} {t : Tok} (e : a = b) : Value.str (mkS a) t = Value.str (mkS b) t := by rw [e]
noncomputable abbrev RetT (h₀ : Heap) (L : Addr) (m : Str → Option Value) (news : List (Addr × Obj)) (s : Shared) (Q : Value → Shared → Prop) (rs : List (List Nat)) : Prop :=
  ∀ (D : Addr) (ps : List (List Nat × Tok)) (h' : Heap) (tk' : Nat), ps.map (·.1) = rs → Fr h₀ L h' m → News h₀ L h' ((D, { cls := .type "tuple", data := .seq (tv ps).toArray }) :: news) → (∀ q ∈ news, q.1 < D) → Q (.ref D) { s with heap := h', toks := tk' }
/-- a call that comes back with a new tuple of texts -/
noncomputable abbrev CtT (prog : Program) (w : World) (p : Program) (loose : List Str) (mean : ExcName → Option Value) (mg mb : Str → Option Value) (f : Addr) (d u : Nat) (vs : List Value) (rs : List (List Nat)) : Prop :=
  ∀ (dp un : Nat) (gd : Option (List Code)) (cn : Str) (cs : Scope) (a : Addr) (ccd : Value) (cl : List (Str × Addr)) (outer : List Env) (A₀ : Around) (base h₀ : Heap) (L : Addr) (m : Str → Option Value) (news : List (Addr × Obj)) (s : Shared) (Q E : Value → Shared → Prop),
    Below A₀ base outer h₀ → Fr h₀ L s.heap m → (K w.params).In h₀ → News h₀ L s.heap news → Top p loose mean mg mb h₀ → cs.kind = .function →
    dp + d < recursionLimit → un + u < cLine → RetT h₀ L m news s Q rs →
    wpAny (model prog w) (ktrTop dp un gd cn cs L a ccd cl outer) (call (.ref f) vs) Q E s
section
variable {h₀ h' : Heap} {L : Addr} {m : Str → Option Value} {news news' : List (Addr × Obj)} {s : Shared} {Q : Value → Shared → Prop} {t : Tok} {tk' : Nat} {rs : List (List Nat)}
theorem ret_ofT {D : Addr} {o : Obj} (hret : RetT h₀ L m news s Q rs) (F : Fr h₀ L h' m) (N : News h₀ L h' ((D, o) :: news')) (hlt : ∀ q ∈ news, q.1 < D) (sub : ∀ p ∈ news, p ∈ news') (ps : List (List Nat × Tok))
    (ho : o = { cls := .type "tuple", data := .seq (tv ps).toArray }) (e : ps.map (·.1) = rs) : Q (.ref D) { s with heap := h', toks := tk' } := by
  subst ho
  exact hret D ps h' tk' e F (fun p hp => by
    rcases List.mem_cons.mp hp with rfl | hp
    · exact N _ (.head _)
    · exact N p (.tail _ (sub p hp))) hlt
end
section
variable {prog : Program} {w : World} {p : Program} {loose : List Str} {mean : ExcName → Option Value} {mg mb : Str → Option Value} {f : Addr} {d u : Nat} {vs : List Value} {rs : List (List Nat)}
  {dp un : Nat} {gd : Option (List Code)} {cn : Str} {cs : Scope} {a : Addr} {ccd : Value} {cl : List (Str × Addr)} {outer : List Env} {A₀ : Around} {base h₀ : Heap} {L : Addr} {m : Str → Option Value} {news : List (Addr × Obj)} {s : Shared} {Q E : Value → Shared → Prop}
theorem use_ctT (C : CtT prog w p loose mean mg mb f d u vs rs) (B : Below A₀ base outer h₀) (F : Fr h₀ L s.heap m) (X : (K w.params).In h₀) (N : News h₀ L s.heap news) (T : Top p loose mean mg mb h₀) (hk : cs.kind = .function)
    (hd : dp + d < recursionLimit) (hu : un + u < cLine) (hret : RetT h₀ L m news s Q rs) :
    wpAny (model prog w) (ktrTop dp un gd cn cs L a ccd cl outer) (call (.ref f) vs) Q E s := C _ _ _ _ _ _ _ _ _ _ _ _ _ _ _ _ _ _ B F X N T hk hd hu hret
end
/-- a frame's names with one turned -/
noncomputable abbrev upd (m : Str → Option Value) (x : Str) (v : Option Value) : Str → Option Value := fun y => if y = x then v else m y
theorem ite_off {α β : Type} {y n : α} {a b c : β} [Decidable (y = n)] (h : y ≠ n) (e : b = c) : (if y = n then a else b) = c := by rw [if_neg h, e]
theorem upd_upd (m : Str → Option Value) (x : Str) (v u : Option Value) : upd (upd m x u) x v = upd m x v := by
  funext y
  unfold upd
  split <;> rfl
theorem upd_self (m : Str → Option Value) (x : Str) : upd m x (m x) = m := by
  funext y
  unfold upd
  split
  · rename_i h; rw [h]
  · rfl
theorem upd_comm (m : Str → Option Value) {x z : Str} (v u : Option Value) (h : x ≠ z) : upd (upd m x v) z u = upd (upd m z u) x v := by
  funext y
  unfold upd
  split
  · rename_i e
    rw [if_neg (fun q => h (q.symm.trans e))]
  · rfl
/-- how a turn of a while over one int name ends -/
noncomputable def IntTurn (h₀ : Heap) (L : Addr) (s : Shared) (m : Str → Option Value) (x : Str) (news : List (Addr × Obj)) (P : Int → Prop) (meas : Int → Nat) (k : Int) (Q : Flow → Shared → Prop) (f : Flow) (s₃ : Shared) : Prop :=
  match f with
  | .next | .cont => ∃ h' tk k' t', s₃ = { s with heap := h', toks := tk } ∧ Fr h₀ L h' (upd m x (some (.int k' t'))) ∧ News h₀ L h' news ∧ meas k' < meas k ∧ P k'
  | .brk => Q .next s₃
  | .ret v => Q (.ret v) s₃
section
variable {prog : Program} {w : World} {A : Around} {E : Value → Shared → Prop} {Q : Flow → Shared → Prop} {s : Shared} {env : Env} {h₀ : Heap} {L : Addr} {m : Str → Option Value} {news : List (Addr × Obj)}
theorem int_turn_next {x : Str} {P : Int → Prop} {meas : Int → Nat} {k k' : Int} {h' : Heap} {tk : Nat} {t' : Tok} {u : Option Value} (F : Fr h₀ L h' (upd (upd m x u) x (some (.int k' t')))) (N : News h₀ L h' news) (hm : meas k' < meas k) (hP : P k') :
    IntTurn h₀ L s m x news P meas k Q .next { s with heap := h', toks := tk } := ⟨h', tk, k', t', rfl, upd_upd m x _ u ▸ F, N, hm, hP⟩
theorem while_int (x : Str) (P : Int → Prop) (meas : Int → Nat) {test : Expr} {body : List Stmt} {pos : Pos} {k₀ : Int} {t₀ : Tok} (F : Fr h₀ L s.heap m) (N : News h₀ L s.heap news) (hm : m x = some (.int k₀ t₀)) (hP : P k₀)
    (turn : ∀ k t h₁ tk₁, P k → Fr h₀ L h₁ (upd m x (some (.int k t))) → News h₀ L h₁ news →
      wpAny (model prog w) A (isTrue test env (eval test env)) (fun b s₂ => if b = true then wpAny (model prog w) A (execs body env) (IntTurn h₀ L s m x news P meas k Q) E s₂ else Q .next s₂) E { s with heap := h₁, toks := tk₁ })
    (hE : PassesOwn (model prog w) A env E) :
    wpAny (model prog w) A (exec (.While test body [] pos) env) Q E s := by
  refine While_inv2 (fun n m₁ news₁ => ∃ k t, m₁ = upd m x (some (.int k t)) ∧ news₁ = news ∧ P k ∧ n = meas k) (n₀ := meas k₀) F N ⟨k₀, t₀, by rw [← hm, upd_self], rfl, hP, rfl⟩ ?_ hE
  rintro n m₁ news₁ h₁ tk₁ F₁ N₁ ⟨k, t, rfl, rfl, hP, rfl⟩
  refine wpAny_mono (turn k t h₁ tk₁ hP F₁ N₁) (fun b s₂ hb => ?_) fun _ _ x => x
  cases b with
  | false => exact hb
  | true =>
    simp only [if_true] at hb ⊢
    refine wpAny_mono hb (fun f s₃ hf => ?_) fun _ _ x => x
    cases f with
    | next =>
      obtain ⟨h', tk, k', t', e, F', N', hl, hP'⟩ := hf
      exact ⟨h', tk, _, news₁, meas k', e, F', N', hl, k', t', rfl, rfl, hP', rfl⟩
    | cont =>
      obtain ⟨h', tk, k', t', e, F', N', hl, hP'⟩ := hf
      exact ⟨h', tk, _, news₁, meas k', e, F', N', hl, k', t', rfl, rfl, hP', rfl⟩
    | brk => exact hf
    | ret v => exact hf
end
end Mine
end -- IlR3
section -- IlD1
open PySem PySem.W PyProof.Rows PySem.Calls PySem.Spec
namespace Mine
theorem lines_IlD1L_1 : True := by
  k_with_none
  k_with "mine sub" => (first | exact fun _ h => h | exact fun _ h => .tail _ h | exact fun _ h => .tail _ (.tail _ h) | exact fun _ h => .tail _ (.tail _ (.tail _ h)) | exact fun _ h => .tail _ (.tail _ (.tail _ (.tail _ h))) | exact fun _ h => .tail _ (.tail _ (.tail _ (.tail _ (.tail _ h)))))
  k_with "mine eq" => (first | rfl | (subst_vars; rfl))
  k_with "mine end" => ((refine' ret_of (by assumption) _ ?q9e1 ?q9e2 ?q9e3 ?q9e4; (case q9e2 => k_asm); (case q9e3 => k_asm); (case q9e4 => walk_at "mine sub"); (case q9e1 => walk_at "mine eq"); (all_goals exact (0 : Nat))))
  k_with "mine endS" => ((refine' ret_of (by assumption) _ (veq ?_) ?q9e2 ?q9e3 ?q9e4; (case q9e2 => k_asm); (case q9e3 => k_asm); (case q9e4 => walk_at "mine sub")))
  k_with "mine lt" => (first | assumption | exact ktn_ltOf (by assumption))
  k_with "mine endT3" => ((refine' ret_ofT (by assumption) ?q9F ?q9N ?q9l ?q9s [(_, _), (_, _), (_, _)] ?q9o ?_; (case q9F => k_asm); (case q9N => k_asm); (case q9l => walk_at "mine lt"); (case q9s => walk_at "mine sub"); (case q9o => ((try simp only [w_nil, w_slash]); rfl))))
  k_with "mine endTT" => ((refine' ret_ofT (by assumption) ?q9F ?q9N ?q9l ?q9s _ ?q9o ?q9e; (case q9F => k_asm); (case q9N => k_asm); (case q9l => walk_at "mine lt"); (case q9s => walk_at "mine sub"); (case q9o => exact rfl); (case q9e => assumption)))
  k_with "mine endT2" => ((refine' ret_ofT (by assumption) ?q9F ?q9N ?q9l ?q9s [(_, _), (_, _)] ?q9o ?_; (case q9F => k_asm); (case q9N => k_asm); (case q9l => walk_at "mine lt"); (case q9s => walk_at "mine sub"); (case q9o => ((try simp only [w_nil, w_slash]); rfl))))
  k_with "mine enterT" => ((unfold CtT; intro dp un gd cn cs a ccd cl outer A₀ base h₀ L m news s Q E B F X N T hk hd hu hret; refine wpAny_call ?_; k_dflt cell_enter))
  k_with "mine enterR" => ((unfold Ct; intro dp un gd cn cs a ccd cl outer A₀ base h₀ L m news s Q E B F X N T hk hd hu hret; refine wpAny_call ?_; k_dflt (refine' kp_rest ?q9k1 ?q9k2 ?q9k3 ?q9k4 ?q9k5 ?q9kA ?q9kF ?q9kK ?q9k6 ?q9k7 ?q9k8 ?q9kV ?q9kP ?q9kG ?q9kB ?_ ?q9c2 ?q9c3 ?q9c4 ?q9c5; (case q9kA => exact rfl); (case q9kF => exact rfl); (case q9kK => assumption); (case q9k1 => k_asm); (case q9k2 => k_asm); (case q9k3 => k_asm); (case q9k4 => k_asm); (case q9k5 => k_asm); (case q9k6 => k_is); (case q9k7 => k_is); (case q9k8 => ktr_room); (case q9kV => kl_lit); (case q9kP => exact rfl); (case q9kG => exact fun _ => rfl); (case q9kB => exact fun _ => locs rfl); (case q9c5 => decide); (case q9c2 => exact rfl); (case q9c3 => exact rfl); (case q9c4 => exact rfl); k_whole); intro D' g' L' h' l1 FG' F' N' B' X' T'; (try k_lt l1); (try dsimp only); (try k_lift B'); (try k_fold)))
  k_with "mine enter" => ((unfold Ct; intro dp un gd cn cs a ccd cl outer A₀ base h₀ L m news s Q E B F X N T hk hd hu hret; refine wpAny_call ?_; k_dflt cell_enter))
  k_with "mine use" => (((case q9k1 => k_asm); (case q9k2 => k_asm); (case q9k3 => k_asm); (case q9k4 => k_asm); (case q9k5 => k_asm); (case q9kK => first | exact rfl | assumption); (case q9kd => ktr_room); (case q9ku => ktr_units); intro t9 h9 tk9 F9 N9; (try dsimp only); (try k_fold); (try k_sweep)))
  k_with "mine useT" => (((case q9k1 => k_asm); (case q9k2 => k_asm); (case q9k3 => k_asm); (case q9k4 => k_asm); (case q9k5 => k_asm); (case q9kK => first | exact rfl | assumption); (case q9kd => ktr_room); (case q9ku => ktr_units); intro D9 ps9 h9 tk9 e9 F9 N9 l9; (try k_lt l9); (try dsimp only); (try k_fold); (try k_sweep)))
  k_with "mine word" => (first | with_reducible exact w_slash | with_reducible exact w_dot | with_reducible exact w_dotdot | with_reducible exact w_nil | with_reducible rfl)
  k_with "mine len" => (first | assumption | lia | (simp only [List.length_take, List.length_drop, List.length_append, List.length_replicate, List.length_cons, List.length_nil]; lia))
  k_with "call builtin:issubclass" => ((k_here; k_dflt (refine' k_issub ?q9k1 ?q9k2 ?_; (case q9k1 => k_asm); (case q9k2 => k_mem); k_whole)))
  k_with "call builtin:str.rfind" => ((k_here; k_dflt (refine' t_rfind ?q9y ?_; (case q9y => walk_at "mine word"); k_whole); intro r' hr' h1' h2'))
  k_with "subscriptTail Name Slice str ref" => ((k_here; (with_reducible show wpAny _ _ (subscriptTail _ (Expr.Slice (some _) none none _) (Value.str (mkS _) _) _) _ _ _); k_dflt (refine' t_slice_from (s := ⟨_, _, _, _, _⟩) ?q9F ?q9N ?q9x ?q9i ?_ ?q9hs ?q9ht; (case q9F => k_asm); (case q9N => k_asm); (case q9x => walk_at "mine len"); (case q9i => walk_at "mine len"); (case q9hs => with_unfolding_all rfl); (case q9ht => intro _; with_unfolding_all rfl); k_whole); intro h' t' k' F' N'; (try k_sweep)))
  k_with "subscriptTail Name Slice str ref" => ((k_here; (with_reducible show wpAny _ _ (subscriptTail _ (Expr.Slice none (some _) none _) (Value.str (mkS _) _) _) _ _ _); k_dflt (refine' t_slice_to (s := ⟨_, _, _, _, _⟩) ?q9F ?q9N ?q9x ?q9i ?_ ?q9hs ?q9ht; (case q9F => k_asm); (case q9N => k_asm); (case q9x => walk_at "mine len"); (case q9i => walk_at "mine len"); (case q9hs => with_unfolding_all rfl); (case q9ht => intro _; with_unfolding_all rfl); k_whole); intro h' t' k' F' N'; (try k_sweep)))
  k_with "subscriptTail Name Slice str ref" => ((k_here; (with_reducible show wpAny _ _ (subscriptTail _ (Expr.Slice (some _) (some _) none _) (Value.str (mkS _) _) _) _ _ _); k_dflt (refine' t_slice_mid (s := ⟨_, _, _, _, _⟩) ?q9F ?q9N ?q9x ?q9i ?q9j ?_ ?q9hs ?q9ht; (case q9F => k_asm); (case q9N => k_asm); (case q9x => walk_at "mine len"); (case q9i => walk_at "mine len"); (case q9j => walk_at "mine len"); (case q9hs => with_unfolding_all rfl); (case q9ht => intro _; with_unfolding_all rfl); k_whole); intro h' t' k' F' N'; (try k_sweep)))
  k_with "truthy str" => ((k_here; (with_reducible show wpAny _ _ (PySem.truthy (Value.str (mkS _) _)) _ _ _); k_dflt (refine' t_truthy ?q9x ?_; (case q9x => walk_at "mine len"); k_whole); intro k'))
  k_with "call builtin:len" => ((k_here; (with_reducible show wpAny _ _ (call (Value.builtin "len") [Value.str (mkS _) _]) _ _ _); k_dflt (refine' t_len ?q9x ?_; (case q9x => walk_at "mine len"); k_whole); intro k'))
  k_with "compareOp NotEq str str" => ((k_here; (with_reducible show wpAny _ _ (compareOp CmpOp.NotEq (Value.str (mkS _) _) _) _ _ _); k_dflt (refine' t_ne ?q9y ?_; (case q9y => walk_at "mine word"); k_whole)))
  k_with "compareOp Eq str str" => ((k_here; (with_reducible show wpAny _ _ (compareOp CmpOp.Eq (Value.str (mkS _) _) _) _ _ _); k_dflt (refine' t_eq ?q9y ?_; (case q9y => walk_at "mine word"); k_whole)))
  k_with "binaryOp Add str str" => ((k_here; k_dflt (refine' t_add ?q9x ?q9y ?q9l ?_; (case q9x => walk_at "mine word"); (case q9y => walk_at "mine word"); (case q9l => walk_at "mine len"); k_whole); intro t' k'))
  k_with "binaryOp Mult str int" => ((k_here; k_dflt (refine' t_mul ?q9y ?q9a ?q9b ?_; (case q9y => walk_at "mine word"); (case q9a => walk_at "mine len"); (case q9b => walk_at "mine len"); k_whole); intro t' k'))
  k_with "call builtin:str.rstrip" => ((k_here; k_dflt (refine' t_rstrip ?q9y ?q9x ?_; (case q9y => walk_at "mine word"); (case q9x => walk_at "mine len"); k_whole); intro t' k'))
  k_with "call builtin:str.lstrip" => ((k_here; k_dflt (refine' t_lstrip ?q9y ?q9x ?_; (case q9y => walk_at "mine word"); (case q9x => walk_at "mine len"); k_whole); intro t' k'))
  k_with "call builtin:str.startswith" => ((k_here; k_dflt (refine' t_starts ?q9y ?_; (case q9y => walk_at "mine word"); k_whole)))
  k_with "call builtin:str.endswith" => ((k_here; k_dflt (refine' t_ends ?q9y ?_; (case q9y => walk_at "mine word"); k_whole)))
  k_with "call builtin:str.split" => ((k_here; k_dflt (refine' t_split ?q9F ?q9N ?q9y ?q9x ?_; (case q9F => k_asm); (case q9N => k_asm); (case q9y => walk_at "mine word"); (case q9x => walk_at "mine len"); k_whole); intro ps' h' k' e' F' N'; (try k_sweep)))
  k_with "call builtin:str.join" => ((k_here; k_dflt (refine' t_join ?q9N ?q9m ?q9y ?q9l ?_; (case q9N => k_asm); (case q9m => k_mem); (case q9y => walk_at "mine word"); (case q9l => walk_at "mine len"); k_whole); intro t' k'))
  k_with "subscriptTail Name Name str int" => ((k_here; (with_reducible show wpAny _ _ (subscriptTail _ _ (Value.str (mkS _) _) _) _ _ _); k_dflt (refine' t_item ?q9x ?q9i ?q9j ?_ ?q9hs ?q9ht; (case q9x => walk_at "mine len"); (case q9i => walk_at "mine len"); (case q9j => walk_at "mine len"); (case q9hs => with_unfolding_all rfl); (case q9ht => intro _; with_unfolding_all rfl); k_whole); intro c' hc'))
  k_with "exec While Compare cons nil" => ((k_here; k_extra "mine while"))
  k_with "IntTurn ret" => (dsimp only [IntTurn])
  k_with "IntTurn next" => ((refine' int_turn_next ?q9F ?q9N ?q9m ?q9P; (case q9F => k_asm); (case q9N => k_asm); (case q9m => k_extra "mine measure"); (case q9P => k_extra "mine state")))
  k_with "exec If" => ((k_here; k_extra "mine if"))
  k_with "exec For Name Name cons nil" => ((k_here; k_extra "mine for"))
  k_with "pyIter ref" => ((k_here; k_extra "mine iter"))
  k_with "LoopStep3 next" => ((k_extra "mine step"))
  k_with "inplaceOp Add str str" => ((k_here; k_dflt (refine' t_iadd ?q9x ?q9y ?q9l ?_; (case q9x => walk_at "mine word"); (case q9y => walk_at "mine word"); (case q9l => walk_at "mine len"); k_whole); intro t' k'))
  k_with "TurnEnd next" => ((refine' acc_next ?q9F ?q9N ?q9m ?q9hlt ?_; (case q9F => k_asm); (case q9N => k_asm); (case q9m => k_mem); (case q9hlt => assumption)))
  k_with "TurnEnd cont" => ((refine' acc_cont ?q9F ?q9N ?q9m ?q9hlt ?_; (case q9F => k_asm); (case q9N => k_asm); (case q9m => k_mem); (case q9hlt => assumption)))
  k_with "truthy ref" => ((k_here; k_dflt (refine' t_truthyL ?q9N ?q9m ?q9z ?_; (case q9N => k_asm); (case q9m => k_mem); (case q9z => walk_at "mine len"); k_whole); intro k'))
  k_with "subscriptTail Name UnaryOp ref int" => ((k_here; k_dflt (refine' t_last ?q9N ?q9m ?q9e ?q9z ?_ ?q9s; (case q9N => k_asm); (case q9m => k_mem); (case q9e => first | assumption | (simp_all; done)); (case q9z => walk_at "mine len"); (case q9s => with_unfolding_all rfl); k_whole); intro q' p' e'))
  k_with "call builtin:list.append" => ((k_here; k_dflt (refine' t_append ?q9F ?q9N ?q9y ?q9U ?q9z ?_; (case q9F => k_asm); (case q9N => k_asm); (case q9y => walk_at "mine word"); (case q9U => k_upd); (case q9z => walk_at "mine len"); k_whole); intro h' F' N'; (try k_sweep)))
  k_with "call builtin:list.pop" => ((k_here; k_dflt (refine' t_pop ?q9F ?q9N ?q9e ?q9U ?q9z ?_; (case q9F => k_asm); (case q9N => k_asm); (case q9e => first | assumption | (simp_all; done)); (case q9U => k_upd); (case q9z => walk_at "mine len"); k_whole); intro h' v' F' N'; (try k_sweep)))
  trivial
theorem lines_IlD1_1 : True := by
  k_with "call ref" => ((k_here; k_dflt (first
  | (refine' use_ct (c_fspath _ _ _ _ _ _ _ _ _) ?q9k1 ?q9k2 ?q9k3 ?q9k4 ?q9k5 ?q9kK ?q9kd ?q9ku ?_)
  | (refine' use_ct (c_get_sep _ _ _ _ _ _ _ _ _) ?q9k1 ?q9k2 ?q9k3 ?q9k4 ?q9k5 ?q9kK ?q9kd ?q9ku ?_)); walk_at "mine use"))
  trivial
noncomputable def baseL (x : List Nat) : List Nat := x.drop (rfindL 47 x + 1).toNat
set_option maxHeartbeats 8000000 in
theorem c_basename (prog : Program) (w : World) (p : Program) (loose : List Str) (mean : ExcName → Option Value) (mg mb : Str → Option Value) (x : List Nat) (t : Tok) (hx : x.length ≤ 100000) :
    Ct prog w p loose mean mg mb 208 2 16 [.str (mkS x) t] (fun t => .str (mkS (baseL x)) t) := by
  walk_at "mine enter"
  k_steps
  walk_at "mine end"

end Mine
end -- IlD1
section -- IlD2
open PySem PySem.W PyProof.Rows PySem.Calls PySem.Spec
namespace Mine
theorem lines_IlD2L_1 : True := by
  k_with_none
  k_with "mine sub" => (first | exact fun _ h => h | exact fun _ h => .tail _ h | exact fun _ h => .tail _ (.tail _ h) | exact fun _ h => .tail _ (.tail _ (.tail _ h)) | exact fun _ h => .tail _ (.tail _ (.tail _ (.tail _ h))) | exact fun _ h => .tail _ (.tail _ (.tail _ (.tail _ (.tail _ h)))))
  k_with "mine eq" => (first | rfl | (subst_vars; rfl))
  k_with "mine end" => ((refine' ret_of (by assumption) _ ?q9e1 ?q9e2 ?q9e3 ?q9e4; (case q9e2 => k_asm); (case q9e3 => k_asm); (case q9e4 => walk_at "mine sub"); (case q9e1 => walk_at "mine eq"); (all_goals exact (0 : Nat))))
  k_with "mine endS" => ((refine' ret_of (by assumption) _ (veq ?_) ?q9e2 ?q9e3 ?q9e4; (case q9e2 => k_asm); (case q9e3 => k_asm); (case q9e4 => walk_at "mine sub")))
  k_with "mine lt" => (first | assumption | exact ktn_ltOf (by assumption))
  k_with "mine endT3" => ((refine' ret_ofT (by assumption) ?q9F ?q9N ?q9l ?q9s [(_, _), (_, _), (_, _)] ?q9o ?_; (case q9F => k_asm); (case q9N => k_asm); (case q9l => walk_at "mine lt"); (case q9s => walk_at "mine sub"); (case q9o => ((try simp only [w_nil, w_slash]); rfl))))
  k_with "mine endTT" => ((refine' ret_ofT (by assumption) ?q9F ?q9N ?q9l ?q9s _ ?q9o ?q9e; (case q9F => k_asm); (case q9N => k_asm); (case q9l => walk_at "mine lt"); (case q9s => walk_at "mine sub"); (case q9o => exact rfl); (case q9e => assumption)))
  k_with "mine endT2" => ((refine' ret_ofT (by assumption) ?q9F ?q9N ?q9l ?q9s [(_, _), (_, _)] ?q9o ?_; (case q9F => k_asm); (case q9N => k_asm); (case q9l => walk_at "mine lt"); (case q9s => walk_at "mine sub"); (case q9o => ((try simp only [w_nil, w_slash]); rfl))))
  k_with "mine enterT" => ((unfold CtT; intro dp un gd cn cs a ccd cl outer A₀ base h₀ L m news s Q E B F X N T hk hd hu hret; refine wpAny_call ?_; k_dflt cell_enter))
  k_with "mine enterR" => ((unfold Ct; intro dp un gd cn cs a ccd cl outer A₀ base h₀ L m news s Q E B F X N T hk hd hu hret; refine wpAny_call ?_; k_dflt (refine' kp_rest ?q9k1 ?q9k2 ?q9k3 ?q9k4 ?q9k5 ?q9kA ?q9kF ?q9kK ?q9k6 ?q9k7 ?q9k8 ?q9kV ?q9kP ?q9kG ?q9kB ?_ ?q9c2 ?q9c3 ?q9c4 ?q9c5; (case q9kA => exact rfl); (case q9kF => exact rfl); (case q9kK => assumption); (case q9k1 => k_asm); (case q9k2 => k_asm); (case q9k3 => k_asm); (case q9k4 => k_asm); (case q9k5 => k_asm); (case q9k6 => k_is); (case q9k7 => k_is); (case q9k8 => ktr_room); (case q9kV => kl_lit); (case q9kP => exact rfl); (case q9kG => exact fun _ => rfl); (case q9kB => exact fun _ => locs rfl); (case q9c5 => decide); (case q9c2 => exact rfl); (case q9c3 => exact rfl); (case q9c4 => exact rfl); k_whole); intro D' g' L' h' l1 FG' F' N' B' X' T'; (try k_lt l1); (try dsimp only); (try k_lift B'); (try k_fold)))
  k_with "mine enter" => ((unfold Ct; intro dp un gd cn cs a ccd cl outer A₀ base h₀ L m news s Q E B F X N T hk hd hu hret; refine wpAny_call ?_; k_dflt cell_enter))
  k_with "mine use" => (((case q9k1 => k_asm); (case q9k2 => k_asm); (case q9k3 => k_asm); (case q9k4 => k_asm); (case q9k5 => k_asm); (case q9kK => first | exact rfl | assumption); (case q9kd => ktr_room); (case q9ku => ktr_units); intro t9 h9 tk9 F9 N9; (try dsimp only); (try k_fold); (try k_sweep)))
  k_with "mine useT" => (((case q9k1 => k_asm); (case q9k2 => k_asm); (case q9k3 => k_asm); (case q9k4 => k_asm); (case q9k5 => k_asm); (case q9kK => first | exact rfl | assumption); (case q9kd => ktr_room); (case q9ku => ktr_units); intro D9 ps9 h9 tk9 e9 F9 N9 l9; (try k_lt l9); (try dsimp only); (try k_fold); (try k_sweep)))
  k_with "mine word" => (first | with_reducible exact w_slash | with_reducible exact w_dot | with_reducible exact w_dotdot | with_reducible exact w_nil | with_reducible rfl)
  k_with "mine len" => (first | assumption | lia | (simp only [List.length_take, List.length_drop, List.length_append, List.length_replicate, List.length_cons, List.length_nil]; lia))
  k_with "call builtin:issubclass" => ((k_here; k_dflt (refine' k_issub ?q9k1 ?q9k2 ?_; (case q9k1 => k_asm); (case q9k2 => k_mem); k_whole)))
  k_with "call builtin:str.rfind" => ((k_here; k_dflt (refine' t_rfind ?q9y ?_; (case q9y => walk_at "mine word"); k_whole); intro r' hr' h1' h2'))
  k_with "subscriptTail Name Slice str ref" => ((k_here; (with_reducible show wpAny _ _ (subscriptTail _ (Expr.Slice (some _) none none _) (Value.str (mkS _) _) _) _ _ _); k_dflt (refine' t_slice_from (s := ⟨_, _, _, _, _⟩) ?q9F ?q9N ?q9x ?q9i ?_ ?q9hs ?q9ht; (case q9F => k_asm); (case q9N => k_asm); (case q9x => walk_at "mine len"); (case q9i => walk_at "mine len"); (case q9hs => with_unfolding_all rfl); (case q9ht => intro _; with_unfolding_all rfl); k_whole); intro h' t' k' F' N'; (try k_sweep)))
  k_with "subscriptTail Name Slice str ref" => ((k_here; (with_reducible show wpAny _ _ (subscriptTail _ (Expr.Slice none (some _) none _) (Value.str (mkS _) _) _) _ _ _); k_dflt (refine' t_slice_to (s := ⟨_, _, _, _, _⟩) ?q9F ?q9N ?q9x ?q9i ?_ ?q9hs ?q9ht; (case q9F => k_asm); (case q9N => k_asm); (case q9x => walk_at "mine len"); (case q9i => walk_at "mine len"); (case q9hs => with_unfolding_all rfl); (case q9ht => intro _; with_unfolding_all rfl); k_whole); intro h' t' k' F' N'; (try k_sweep)))
  k_with "subscriptTail Name Slice str ref" => ((k_here; (with_reducible show wpAny _ _ (subscriptTail _ (Expr.Slice (some _) (some _) none _) (Value.str (mkS _) _) _) _ _ _); k_dflt (refine' t_slice_mid (s := ⟨_, _, _, _, _⟩) ?q9F ?q9N ?q9x ?q9i ?q9j ?_ ?q9hs ?q9ht; (case q9F => k_asm); (case q9N => k_asm); (case q9x => walk_at "mine len"); (case q9i => walk_at "mine len"); (case q9j => walk_at "mine len"); (case q9hs => with_unfolding_all rfl); (case q9ht => intro _; with_unfolding_all rfl); k_whole); intro h' t' k' F' N'; (try k_sweep)))
  k_with "truthy str" => ((k_here; (with_reducible show wpAny _ _ (PySem.truthy (Value.str (mkS _) _)) _ _ _); k_dflt (refine' t_truthy ?q9x ?_; (case q9x => walk_at "mine len"); k_whole); intro k'))
  k_with "call builtin:len" => ((k_here; (with_reducible show wpAny _ _ (call (Value.builtin "len") [Value.str (mkS _) _]) _ _ _); k_dflt (refine' t_len ?q9x ?_; (case q9x => walk_at "mine len"); k_whole); intro k'))
  k_with "compareOp NotEq str str" => ((k_here; (with_reducible show wpAny _ _ (compareOp CmpOp.NotEq (Value.str (mkS _) _) _) _ _ _); k_dflt (refine' t_ne ?q9y ?_; (case q9y => walk_at "mine word"); k_whole)))
  k_with "compareOp Eq str str" => ((k_here; (with_reducible show wpAny _ _ (compareOp CmpOp.Eq (Value.str (mkS _) _) _) _ _ _); k_dflt (refine' t_eq ?q9y ?_; (case q9y => walk_at "mine word"); k_whole)))
  k_with "binaryOp Add str str" => ((k_here; k_dflt (refine' t_add ?q9x ?q9y ?q9l ?_; (case q9x => walk_at "mine word"); (case q9y => walk_at "mine word"); (case q9l => walk_at "mine len"); k_whole); intro t' k'))
  k_with "binaryOp Mult str int" => ((k_here; k_dflt (refine' t_mul ?q9y ?q9a ?q9b ?_; (case q9y => walk_at "mine word"); (case q9a => walk_at "mine len"); (case q9b => walk_at "mine len"); k_whole); intro t' k'))
  k_with "call builtin:str.rstrip" => ((k_here; k_dflt (refine' t_rstrip ?q9y ?q9x ?_; (case q9y => walk_at "mine word"); (case q9x => walk_at "mine len"); k_whole); intro t' k'))
  k_with "call builtin:str.lstrip" => ((k_here; k_dflt (refine' t_lstrip ?q9y ?q9x ?_; (case q9y => walk_at "mine word"); (case q9x => walk_at "mine len"); k_whole); intro t' k'))
  k_with "call builtin:str.startswith" => ((k_here; k_dflt (refine' t_starts ?q9y ?_; (case q9y => walk_at "mine word"); k_whole)))
  k_with "call builtin:str.endswith" => ((k_here; k_dflt (refine' t_ends ?q9y ?_; (case q9y => walk_at "mine word"); k_whole)))
  k_with "call builtin:str.split" => ((k_here; k_dflt (refine' t_split ?q9F ?q9N ?q9y ?q9x ?_; (case q9F => k_asm); (case q9N => k_asm); (case q9y => walk_at "mine word"); (case q9x => walk_at "mine len"); k_whole); intro ps' h' k' e' F' N'; (try k_sweep)))
  k_with "call builtin:str.join" => ((k_here; k_dflt (refine' t_join ?q9N ?q9m ?q9y ?q9l ?_; (case q9N => k_asm); (case q9m => k_mem); (case q9y => walk_at "mine word"); (case q9l => walk_at "mine len"); k_whole); intro t' k'))
  k_with "subscriptTail Name Name str int" => ((k_here; (with_reducible show wpAny _ _ (subscriptTail _ _ (Value.str (mkS _) _) _) _ _ _); k_dflt (refine' t_item ?q9x ?q9i ?q9j ?_ ?q9hs ?q9ht; (case q9x => walk_at "mine len"); (case q9i => walk_at "mine len"); (case q9j => walk_at "mine len"); (case q9hs => with_unfolding_all rfl); (case q9ht => intro _; with_unfolding_all rfl); k_whole); intro c' hc'))
  k_with "exec While Compare cons nil" => ((k_here; k_extra "mine while"))
  k_with "IntTurn ret" => (dsimp only [IntTurn])
  k_with "IntTurn next" => ((refine' int_turn_next ?q9F ?q9N ?q9m ?q9P; (case q9F => k_asm); (case q9N => k_asm); (case q9m => k_extra "mine measure"); (case q9P => k_extra "mine state")))
  k_with "exec If" => ((k_here; k_extra "mine if"))
  k_with "exec For Name Name cons nil" => ((k_here; k_extra "mine for"))
  k_with "pyIter ref" => ((k_here; k_extra "mine iter"))
  k_with "LoopStep3 next" => ((k_extra "mine step"))
  k_with "inplaceOp Add str str" => ((k_here; k_dflt (refine' t_iadd ?q9x ?q9y ?q9l ?_; (case q9x => walk_at "mine word"); (case q9y => walk_at "mine word"); (case q9l => walk_at "mine len"); k_whole); intro t' k'))
  k_with "TurnEnd next" => ((refine' acc_next ?q9F ?q9N ?q9m ?q9hlt ?_; (case q9F => k_asm); (case q9N => k_asm); (case q9m => k_mem); (case q9hlt => assumption)))
  k_with "TurnEnd cont" => ((refine' acc_cont ?q9F ?q9N ?q9m ?q9hlt ?_; (case q9F => k_asm); (case q9N => k_asm); (case q9m => k_mem); (case q9hlt => assumption)))
  k_with "truthy ref" => ((k_here; k_dflt (refine' t_truthyL ?q9N ?q9m ?q9z ?_; (case q9N => k_asm); (case q9m => k_mem); (case q9z => walk_at "mine len"); k_whole); intro k'))
  k_with "subscriptTail Name UnaryOp ref int" => ((k_here; k_dflt (refine' t_last ?q9N ?q9m ?q9e ?q9z ?_ ?q9s; (case q9N => k_asm); (case q9m => k_mem); (case q9e => first | assumption | (simp_all; done)); (case q9z => walk_at "mine len"); (case q9s => with_unfolding_all rfl); k_whole); intro q' p' e'))
  k_with "call builtin:list.append" => ((k_here; k_dflt (refine' t_append ?q9F ?q9N ?q9y ?q9U ?q9z ?_; (case q9F => k_asm); (case q9N => k_asm); (case q9y => walk_at "mine word"); (case q9U => k_upd); (case q9z => walk_at "mine len"); k_whole); intro h' F' N'; (try k_sweep)))
  k_with "call builtin:list.pop" => ((k_here; k_dflt (refine' t_pop ?q9F ?q9N ?q9e ?q9U ?q9z ?_; (case q9F => k_asm); (case q9N => k_asm); (case q9e => first | assumption | (simp_all; done)); (case q9U => k_upd); (case q9z => walk_at "mine len"); k_whole); intro h' v' F' N'; (try k_sweep)))
  trivial
theorem lines_IlD2_1 : True := by
  k_with "call ref" => ((k_here; k_dflt (first
  | (refine' use_ct (c_fspath _ _ _ _ _ _ _ _ _) ?q9k1 ?q9k2 ?q9k3 ?q9k4 ?q9k5 ?q9kK ?q9kd ?q9ku ?_)
  | (refine' use_ct (c_get_sep _ _ _ _ _ _ _ _ _) ?q9k1 ?q9k2 ?q9k3 ?q9k4 ?q9k5 ?q9kK ?q9kd ?q9ku ?_)); walk_at "mine use"))
  trivial
noncomputable def dirL (x : List Nat) : List Nat :=
  if x.take (rfindL 47 x + 1).toNat ≠ [] ∧ x.take (rfindL 47 x + 1).toNat ≠ List.replicate (x.take (rfindL 47 x + 1).toNat).length 47 then rstripL 47 (x.take (rfindL 47 x + 1).toNat) else x.take (rfindL 47 x + 1).toNat
set_option maxHeartbeats 8000000 in
theorem c_dirname (prog : Program) (w : World) (p : Program) (loose : List Str) (mean : ExcName → Option Value) (mg mb : Str → Option Value) (x : List Nat) (t : Tok) (hx : x.length ≤ 100000) :
    Ct prog w p loose mean mg mb 215 2 16 [.str (mkS x) t] (fun t => .str (mkS (dirL x)) t) := by
  walk_at "mine enter"
  k_steps
  all_goals walk_at "mine endS"
  all_goals (subst_vars; unfold dirL; split <;> first | rfl | grind)
noncomputable def rootL (x : List Nat) : List (List Nat) := if x.take 1 ≠ [47] then [[], [], x] else if (x.take 2).drop 1 ≠ [47] ∨ (x.take 3).drop 2 = [47] then [[], [47], x.drop 1] else [[], x.take 2, x.drop 2]
set_option maxHeartbeats 8000000 in
theorem c_splitroot (prog : Program) (w : World) (p : Program) (loose : List Str) (mean : ExcName → Option Value) (mg mb : Str → Option Value) (x : List Nat) (t : Tok) (hx : x.length ≤ 100000) :
    CtT prog w p loose mean mg mb 201 2 16 [.str (mkS x) t] (rootL x) := by
  walk_at "mine enterT"
  k_steps
  all_goals walk_at "mine endT3"
  all_goals (show _ = rootL x; unfold rootL; (repeat' split) <;> first | rfl | grind)

end Mine
end -- IlD2
section -- IlR4
theorem Mine.none_IlR4 : True := by
  k_with_none
  trivial
open PySem PySem.W PyProof.Rows PySem.Calls PySem.Spec PySem.Builtin PySem.Builtin.Str
namespace Mine
/-- a list of texts -/
noncomputable abbrev lstT (ps : List (List Nat × Tok)) (n : Nat) : Obj := { cls := .type "list", data := .seq (tv ps).toArray n }
theorem two_of {ps : List (List Nat × Tok)} {a b : List Nat} (e : ps.map (·.1) = [a, b]) : ∃ ta tb, ps = [(a, ta), (b, tb)] := by
  match ps, e with
  | [(x, tx), (y, ty)], e =>
    simp at e
    obtain ⟨rfl, rfl⟩ := e
    exact ⟨tx, ty, rfl⟩
theorem three_of {ps : List (List Nat × Tok)} {a b c : List Nat} (e : ps.map (·.1) = [a, b, c]) : ∃ ta tb tc, ps = [(a, ta), (b, tb), (c, tc)] := by
  match ps, e with
  | [(x, tx), (y, ty), (z, tz)], e =>
    simp at e
    obtain ⟨rfl, rfl, rfl⟩ := e
    exact ⟨tx, ty, tz, rfl⟩
section
variable {prog : Program} {w : World} {A : Around} {E : Value → Shared → Prop} {s : Shared} {h₀ : Heap} {L D : Addr} {m : Str → Option Value} {news news' : List (Addr × Obj)} {l : List Nat} {y : Str} {t u : Tok} {c : Nat} {value slice : Expr} {ps : List (List Nat × Tok)} {n : Nat}
theorem t_append {b : List Nat} {Q : Value → Shared → Prop} (F : Fr h₀ L s.heap m) (N : News h₀ L s.heap news) (hy : y = mkS b) (U : Upd D (lstT ps n) (lstT (ps ++ [(b, t)]) (n + 1)) news news') (hz : ps.length ≤ 10000000)
    (h : ∀ h', Fr h₀ L h' m → News h₀ L h' news' → Q .none { s with heap := h' }) : wpAny (model prog w) A (call (.builtin "list.append") [.ref D, .str y t]) Q E s := by
  refine append_K (its := (tv ps).toArray) (n := n) F N ?_ h (by rw [List.size_toArray, tv_length]; exact len_line hz)
  have : (tv ps).toArray.push (.str y t) = (tv (ps ++ [(b, t)])).toArray := by rw [tv_append, hy]; simp [tv]
  show Upd D (lstT ps n) { cls := .type "list", data := .seq ((tv ps).toArray.push (.str y t)) (n + 1) } news news'
  rw [this]
  exact U
theorem t_pop {Q : Value → Shared → Prop} (F : Fr h₀ L s.heap m) (N : News h₀ L s.heap news) (hne : ps ≠ []) (U : Upd D (lstT ps n) (lstT ps.dropLast (n + 1)) news news') (hz : ps.length ≤ 10000000)
    (h : ∀ h' v, Fr h₀ L h' m → News h₀ L h' news' → Q v { s with heap := h' }) : wpAny (model prog w) A (call (.builtin "list.pop") [.ref D]) Q E s := by
  rcases List.eq_nil_or_concat ps with rfl | ⟨q, p, rfl⟩
  · exact absurd rfl hne
  · rw [List.concat_eq_append] at *
    have e : kl_last ((tv (q ++ [p])).toArray.toList) = some (tv q, .str (mkS p.1) p.2) := by
      rw [List.toList_toArray, tv_append]
      exact kpa_last _ _
    rw [List.dropLast_concat] at U
    exact kl_pop (its := (tv (q ++ [p])).toArray) (n := n) F N e U (by rw [List.toList_toArray, tv_length]; exact len_line hz) fun h' F' N' => h h' _ F' N'
theorem t_truthyL {Q : Bool → Shared → Prop} (N : News h₀ L s.heap news) (hm : (D, lstT ps n) ∈ news) (hz : ps.length ≤ 10000000) (h : ∀ k, Q (decide (ps ≠ [])) { s with toks := k }) : wpAny (model prog w) A (PySem.truthy (.ref D)) Q E s := by
  refine wpAny_truthy_list (N.isList hm) (by rw [List.size_toArray, tv_length]; lia) ?_
  have : (!(tv ps).toArray.isEmpty) = decide (ps ≠ []) := by cases ps <;> simp [tv]
  first
    | (rw [this]; exact h _)
    | exact this ▸ h _
end
end Mine
end -- IlR4
section -- IlR5
theorem Mine.none_IlR5 : True := by
  k_with_none
  trivial
open PySem PySem.W PyProof.Rows PySem.Calls PySem.Spec PySem.Builtin PySem.Builtin.Str
namespace Mine
section
variable {prog : Program} {w : World} {A : Around} {E : Value → Shared → Prop} {s : Shared} {env : Env} {h₀ : Heap} {x : Str} {body : List Stmt} {Q : Flow → Shared → Prop}
/-- a loop's statement over the names, the ledger and what is left -/
noncomputable def TurnEnd (h₀ : Heap) (L : Addr) (x : Str) (m₀ : Str → Option Value) (lp : Addr × Obj) (I : Addr) (it : Obj) (P : List (Addr × Obj) → Prop) (s₁ : Shared) (Q : Flow → Shared → Prop) (f : Flow) (s₂ : Shared) : Prop :=
  UnrPost h₀ L s₁ I it (fun m' n' => lp ∈ n' ∧ (∃ v, m' = upd m₀ x v) ∧ (∀ q ∈ n', q.1 < I) ∧ P n') Q f s₂
theorem for_vals {ax : Addr} {lo : Obj} {vs : List Value} {n : Nat} {m₀ : Str → Option Value} {news : List (Addr × Obj)} (P : List Value → List (Addr × Obj) → Prop)
    (hh : A.handled = none) (F : Fr h₀ env.locals s.heap m₀) (N : News h₀ env.locals s.heap news) (hm : (ax, lo) ∈ news) (hc : lo.cls = .type "list") (hd : lo.data = .seq vs.toArray n)
    (h0 : P vs news)
    (turn : ∀ v r news₁ it I h tk, P (v :: r) news₁ → (∀ q ∈ news, q.1 < I) → (∀ q ∈ news₁, q.1 < I) → (ax, lo) ∈ news₁ → it.cls = .type "list_iterator" → Fr h₀ env.locals h (upd m₀ x (some v)) → News h₀ env.locals h ((I, it) :: news₁) →
      wpAny (model prog w) A (execs body env) (TurnEnd h₀ env.locals x m₀ (ax, lo) I it (P r) { s with heap := h, toks := tk } Q) E { s with heap := h, toks := tk })
    (done : ∀ news₁ v h tk, P [] news₁ → Fr h₀ env.locals h (upd m₀ x v) → News h₀ env.locals h news₁ → Q .next { s with heap := h, toks := tk }) :
    wpAny (model prog w) A (pyIter (.ref ax)) (fun it s₂ => LoopAtV prog w A h₀ env x body Q E it s₂) E s := by
  refine iter_listUnr hh F N hm hc hd fun I hI => ?_
  have key : ∀ (vs : List Value) (m : Str → Option Value) (n₁ : List (Addr × Obj)), (ax, lo) ∈ n₁ → (∃ v, m = upd m₀ x v) → (∀ q ∈ n₁, q.1 < I) → P vs n₁ → ListRest prog w A E h₀ env x body Q s I (ax, lo) vs m n₁ := by
    intro vs
    induction vs with
    | nil =>
      rintro m n₁ _ ⟨v, rfl⟩ _ hP
      exact ListRest.zero fun h tk F N => done n₁ v h tk hP F N
    | cons v r ih =>
      rintro m n₁ hmem ⟨u, rfl⟩ hlt hP
      refine ListRest.succ fun it h tk hit F N => ?_
      refine wpAny_mono (turn v r n₁ it I h tk hP hI hlt hmem hit (by rw [← upd_upd m₀ x (some v) u]; exact F) N) (fun f s₂ hq => ?_) fun _ _ x => x
      have conv : ∀ {s₂}, UnrEnd h₀ env.locals { s with heap := h, toks := tk } I it (fun m' n' => (ax, lo) ∈ n' ∧ (∃ v, m' = upd m₀ x v) ∧ (∀ q ∈ n', q.1 < I) ∧ P r n') s₂ →
          UnrEnd h₀ env.locals { s with heap := h, toks := tk } I it (fun m' n' => (ax, lo) ∈ n' ∧ ListRest prog w A E h₀ env x body Q s I (ax, lo) r m' n') s₂ := by
        rintro s₂ ⟨h', tk', m', n', e, F', N', off, hm', hv, hl, hP'⟩
        exact ⟨h', tk', m', n', e, F', N', off, hm', ih m' n' hm' hv hl hP'⟩
      cases f with
      | ret v => exact hq
      | brk => exact hq
      | next => exact conv hq
      | cont => exact conv hq
  exact key vs m₀ news hm ⟨m₀ x, (upd_self m₀ x).symm⟩ hI h0
theorem turn_next {L : Addr} {m₀ : Str → Option Value} {lp : Addr × Obj} {I : Addr} {it : Obj} {P : List (Addr × Obj) → Prop} {s₁ : Shared} {h' : Heap} {tk' : Nat} {v : Option Value} {n' : List (Addr × Obj)}
    (F : Fr h₀ L h' (upd m₀ x v)) (N : News h₀ L h' ((I, it) :: n')) (hm : lp ∈ n') (hl : ∀ q ∈ n', q.1 < I) (hP : P n') :
    TurnEnd h₀ L x m₀ lp I it P s₁ Q .next { s₁ with heap := h', toks := tk' } := ⟨h', tk', _, n', rfl, F, N, fun p hp => Nat.ne_of_lt (hl p hp), hm, ⟨v, rfl⟩, hl, hP⟩
theorem turn_cont {L : Addr} {m₀ : Str → Option Value} {lp : Addr × Obj} {I : Addr} {it : Obj} {P : List (Addr × Obj) → Prop} {s₁ : Shared} {h' : Heap} {tk' : Nat} {v : Option Value} {n' : List (Addr × Obj)}
    (F : Fr h₀ L h' (upd m₀ x v)) (N : News h₀ L h' ((I, it) :: n')) (hm : lp ∈ n') (hl : ∀ q ∈ n', q.1 < I) (hP : P n') :
    TurnEnd h₀ L x m₀ lp I it P s₁ Q .cont { s₁ with heap := h', toks := tk' } := ⟨h', tk', _, n', rfl, F, N, fun p hp => Nat.ne_of_lt (hl p hp), hm, ⟨v, rfl⟩, hl, hP⟩
theorem lt_head {D I : Addr} {o o' : Obj} {r : List (Addr × Obj)} (h : ∀ q ∈ (D, o) :: r, q.1 < I) : ∀ q ∈ (D, o') :: r, q.1 < I := by
  intro q hq
  rcases List.mem_cons.mp hq with rfl | hq
  · exact h (D, o) (.head _)
  · exact h q (.tail _ hq)
theorem for_acc {ax Dn : Addr} {ps ts₀ : List (List Nat × Tok)} {n n₀ : Nat} {m₀ : Str → Option Value} {rest : List (Addr × Obj)} (P : List (List Nat × Tok) → List (List Nat × Tok) → Prop)
    (hh : A.handled = none) (F : Fr h₀ env.locals s.heap m₀) (N : News h₀ env.locals s.heap ((Dn, lstT ts₀ n₀) :: rest)) (hm : (ax, lstT ps n) ∈ rest) (h0 : P ps ts₀)
    (turn : ∀ p r ts n₁ it I h tk, P (p :: r) ts → (∀ q ∈ (Dn, lstT ts n₁) :: rest, q.1 < I) → it.cls = .type "list_iterator" → Fr h₀ env.locals h (upd m₀ x (some (.str (mkS p.1) p.2))) → News h₀ env.locals h ((I, it) :: (Dn, lstT ts n₁) :: rest) →
      wpAny (model prog w) A (execs body env) (TurnEnd h₀ env.locals x m₀ (ax, lstT ps n) I it (fun n' => ∃ ts' n₂, n' = (Dn, lstT ts' n₂) :: rest ∧ P r ts') { s with heap := h, toks := tk } Q) E { s with heap := h, toks := tk })
    (done : ∀ ts n₁ v h tk, P [] ts → Fr h₀ env.locals h (upd m₀ x v) → News h₀ env.locals h ((Dn, lstT ts n₁) :: rest) → Q .next { s with heap := h, toks := tk }) :
    wpAny (model prog w) A (pyIter (.ref ax)) (fun it s₂ => LoopAtV prog w A h₀ env x body Q E it s₂) E s := by
  refine for_vals (fun vs n' => ∃ ps', vs = tv ps' ∧ ∃ ts' n₂, n' = (Dn, lstT ts' n₂) :: rest ∧ P ps' ts') hh F N (.tail _ hm) rfl rfl ⟨ps, rfl, ts₀, n₀, rfl, h0⟩ ?_ ?_
  · rintro v r n' it I h tk ⟨ps', e1, ts', n₂, rfl, hP⟩ _ l2 _ hit F' N'
    cases ps' with
    | nil => cases e1
    | cons q ps' =>
      cases e1
      refine wpAny_mono (turn q ps' ts' n₂ it I h tk hP l2 hit F' N') (fun f s₂ hq => ?_) fun _ _ x => x
      cases f with
      | ret v => exact hq
      | brk => exact hq
      | next =>
        obtain ⟨h', tk', m', n', e, F', N', off, hm', hv, hl, hP'⟩ := hq
        exact ⟨h', tk', m', n', e, F', N', off, hm', hv, hl, ps', rfl, hP'⟩
      | cont =>
        obtain ⟨h', tk', m', n', e, F', N', off, hm', hv, hl, hP'⟩ := hq
        exact ⟨h', tk', m', n', e, F', N', off, hm', hv, hl, ps', rfl, hP'⟩
  · rintro n' v h tk ⟨ps', e1, ts', n₂, rfl, hP⟩ F' N'
    cases ps' with
    | cons q ps' => cases e1
    | nil => exact done ts' n₂ v h tk hP F' N'
theorem acc_next {ax Dn : Addr} {ps ts ts' : List (List Nat × Tok)} {n n₁ n₂ : Nat} {rest : List (Addr × Obj)} {P : List (List Nat × Tok) → Prop} {L : Addr} {m₀ : Str → Option Value} {I : Addr} {it : Obj} {s₁ : Shared} {h' : Heap} {tk' : Nat} {v : Option Value}
    (F : Fr h₀ L h' (upd m₀ x v)) (N : News h₀ L h' ((I, it) :: (Dn, lstT ts' n₂) :: rest)) (hm : (ax, lstT ps n) ∈ rest) (hl : ∀ q ∈ (Dn, lstT ts n₁) :: rest, q.1 < I) (hP : P ts') :
    TurnEnd h₀ L x m₀ (ax, lstT ps n) I it (fun n' => ∃ ts' n₂, n' = (Dn, lstT ts' n₂) :: rest ∧ P ts') s₁ Q .next { s₁ with heap := h', toks := tk' } := turn_next F N (.tail _ hm) (lt_head hl) ⟨ts', n₂, rfl, hP⟩
theorem acc_cont {ax Dn : Addr} {ps ts ts' : List (List Nat × Tok)} {n n₁ n₂ : Nat} {rest : List (Addr × Obj)} {P : List (List Nat × Tok) → Prop} {L : Addr} {m₀ : Str → Option Value} {I : Addr} {it : Obj} {s₁ : Shared} {h' : Heap} {tk' : Nat} {v : Option Value}
    (F : Fr h₀ L h' (upd m₀ x v)) (N : News h₀ L h' ((I, it) :: (Dn, lstT ts' n₂) :: rest)) (hm : (ax, lstT ps n) ∈ rest) (hl : ∀ q ∈ (Dn, lstT ts n₁) :: rest, q.1 < I) (hP : P ts') :
    TurnEnd h₀ L x m₀ (ax, lstT ps n) I it (fun n' => ∃ ts' n₂, n' = (Dn, lstT ts' n₂) :: rest ∧ P ts') s₁ Q .cont { s₁ with heap := h', toks := tk' } := turn_cont F N (.tail _ hm) (lt_head hl) ⟨ts', n₂, rfl, hP⟩
theorem t_last {D : Addr} {ps : List (List Nat × Tok)} {n : Nat} {h₀ : Heap} {L : Addr} {news : List (Addr × Obj)} {t : Tok} {value slice : Expr} {Q : Value → Shared → Prop} {s : Shared}
    (N : News h₀ L s.heap news) (hm : (D, lstT ps n) ∈ news) (hne : ps ≠ []) (hz : ps.length ≤ 10000000)
    (h : ∀ q p, ps = q ++ [p] → Q (.str (mkS p.1) p.2) s) (hs : subscripted slice false (.ref D) (.int (-1) t) = operate [.ref D, .int (-1) t] (getItem (.ref D) (.int (-1) t))) :
    wpAny (model prog w) A (subscriptTail value slice (.ref D) (.int (-1) t)) Q E s := by
  have hl := N.isList hm
  rcases List.eq_nil_or_concat ps with rfl | ⟨q, p, rfl⟩
  · exact absurd rfl hne
  · rw [List.concat_eq_append] at *
    refine tail_any (T := "list") (id := "list.__getitem__") hl.typeIs slot_list_getitem.1 ?_ hs
    have hsz : (tv (q ++ [p])).toArray.size = q.length + 1 := by rw [List.size_toArray, tv_length]; simp
    refine wpAny_getItem_list_neg (x := .str (mkS p.1) p.2) hl (by decide) (by rw [hsz]; lia) (by decide) ?_ (h q p rfl)
    rw [hsz, show ((-1 : Int) + ((q.length + 1 : Nat) : Int)).toNat = q.length by lia]
    rw [tv_append]
    simp [tv]
end
end Mine
end -- IlR5
section -- IlR6
theorem Mine.none_IlR6 : True := by
  k_with_none
  trivial
open PySem PySem.W PyProof.Rows PySem.Calls PySem.Spec PySem.Builtin PySem.Builtin.Str
namespace Mine
/-- a list of values -/
noncomputable abbrev lstV (vs : List Value) (n : Nat) : Obj := { cls := .type "list", data := .seq vs.toArray n }
/-- the parts of a pattern: none is the star -/
noncomputable abbrev Part := Option (List Nat × Tok)
noncomputable def pv1 (S : Addr) : Part → Value
  | none => .ref S
  | some p => .str (mkS p.1) p.2
noncomputable def pv (S : Addr) (ps : List Part) : List Value := ps.map (pv1 S)
theorem pv_length (S : Addr) (ps : List Part) : (pv S ps).length = ps.length := List.length_map ..
theorem pv_append (S : Addr) (a b : List Part) : pv S (a ++ b) = pv S a ++ pv S b := List.map_append ..
noncomputable abbrev lstP (S : Addr) (ps : List Part) (n : Nat) : Obj := { cls := .type "list", data := .seq (pv S ps).toArray n }
section
variable {prog : Program} {w : World} {A : Around} {E : Value → Shared → Prop} {s : Shared} {h₀ : Heap} {L D S : Addr} {m : Str → Option Value} {news news' : List (Addr × Obj)} {y : Str} {t u : Tok} {value slice : Expr} {ps : List Part} {n : Nat}
theorem p_append {x : Value} {p : Part} {Q : Value → Shared → Prop} (F : Fr h₀ L s.heap m) (N : News h₀ L s.heap news) (hx : x = pv1 S p) (U : Upd D (lstP S ps n) (lstP S (ps ++ [p]) (n + 1)) news news') (hz : ps.length ≤ 10000000)
    (h : ∀ h', Fr h₀ L h' m → News h₀ L h' news' → Q .none { s with heap := h' }) : wpAny (model prog w) A (call (.builtin "list.append") [.ref D, x]) Q E s := by
  refine append_K (its := (pv S ps).toArray) (n := n) F N ?_ h (by rw [List.size_toArray, pv_length]; exact len_line hz)
  have : (pv S ps).toArray.push x = (pv S (ps ++ [p])).toArray := by rw [pv_append, hx]; simp [pv]
  show Upd D (lstP S ps n) { cls := .type "list", data := .seq ((pv S ps).toArray.push x) (n + 1) } news news'
  rw [this]
  exact U
theorem p_truthy {Q : Bool → Shared → Prop} (N : News h₀ L s.heap news) (hm : (D, lstP S ps n) ∈ news) (hz : ps.length ≤ 10000000) (h : ∀ k, Q (decide (ps ≠ [])) { s with toks := k }) : wpAny (model prog w) A (PySem.truthy (.ref D)) Q E s := by
  refine wpAny_truthy_list (N.isList hm) (by rw [List.size_toArray, pv_length]; lia) ?_
  have : (!(pv S ps).toArray.isEmpty) = decide (ps ≠ []) := by cases ps <;> simp [pv]
  first
    | (rw [this]; exact h _)
    | exact this ▸ h _
theorem p_last {Q : Value → Shared → Prop}
    (N : News h₀ L s.heap news) (hm : (D, lstP S ps n) ∈ news) (hne : ps ≠ []) (hz : ps.length ≤ 10000000)
    (h : ∀ q p, ps = q ++ [p] → Q (pv1 S p) s) (hs : subscripted slice false (.ref D) (.int (-1) t) = operate [.ref D, .int (-1) t] (getItem (.ref D) (.int (-1) t))) :
    wpAny (model prog w) A (subscriptTail value slice (.ref D) (.int (-1) t)) Q E s := by
  have hl := N.isList hm
  rcases List.eq_nil_or_concat ps with rfl | ⟨q, p, rfl⟩
  · exact absurd rfl hne
  · rw [List.concat_eq_append] at *
    refine tail_any (T := "list") (id := "list.__getitem__") hl.typeIs slot_list_getitem.1 ?_ hs
    have hsz : (pv S (q ++ [p])).toArray.size = q.length + 1 := by rw [List.size_toArray, pv_length]; simp
    refine wpAny_getItem_list_neg (x := pv1 S p) hl (by decide) (by rw [hsz]; lia) (by decide) ?_ (h q p rfl)
    rw [hsz, show ((-1 : Int) + ((q.length + 1 : Nat) : Int)).toNat = q.length by lia]
    rw [pv_append]
    simp [pv]
theorem p_item {k : Int} {Q : Value → Shared → Prop}
    (N : News h₀ L s.heap news) (hm : (D, lstP S ps n) ∈ news) (h0 : 0 ≤ k) (h1 : k < ps.length) (hz : ps.length ≤ 10000000)
    (h : ∀ p, ps[k.toNat]? = some p → Q (pv1 S p) s) (hs : subscripted slice false (.ref D) (.int k t) = operate [.ref D, .int k t] (getItem (.ref D) (.int k t))) :
    wpAny (model prog w) A (subscriptTail value slice (.ref D) (.int k t)) Q E s := by
  have hl := N.isList hm
  refine tail_any (T := "list") (id := "list.__getitem__") hl.typeIs slot_list_getitem.1 ?_ hs
  have hk : k.toNat < ps.length := by lia
  have e := List.getElem?_eq_getElem hk
  refine wpAny_getItem_list (x := pv1 S ps[k.toNat]) hl h0 (by lia) ?_ (h _ e)
  simp [pv, hk]
/-- a name turned several times -/
theorem upd4 {m m' : Str → Option Value} {a b c d : Str} (hab : a ≠ b) (hac : a ≠ c) (had : a ≠ d) (hbc : b ≠ c) (hbd : b ≠ d) (hcd : c ≠ d) (h : ∀ y, y ≠ a → y ≠ b → y ≠ c → y ≠ d → m' y = m y) :
    m' = upd (upd (upd (upd m d (m' d)) c (m' c)) b (m' b)) a (m' a) := by
  funext y
  unfold upd
  by_cases h1 : y = a
  · subst h1; rw [if_pos rfl]
  · by_cases h2 : y = b
    · subst h2; rw [if_neg h1, if_pos rfl]
    · by_cases h3 : y = c
      · subst h3; rw [if_neg h1, if_neg h2, if_pos rfl]
      · by_cases h4 : y = d
        · subst h4; rw [if_neg h1, if_neg h2, if_neg h3, if_pos rfl]
        · rw [if_neg h1, if_neg h2, if_neg h3, if_neg h4, h y h1 h2 h3 h4]
end
end Mine
end -- IlR6
section -- IlB1
theorem Mine.none_IlB1 : True := by
  k_with_none
  trivial
open PySem PySem.W PyProof.Rows PySem.Calls PySem.Spec PySem.Builtin PySem.Builtin.Str
set_option maxHeartbeats 4000000
namespace Mine
noncomputable abbrev boundA (D : Addr) : Obj := { cls := .type "builtin_function_or_method", data := .fields #[.builtin "list.append", .ref D] }
theorem slot_mget : Slot "method_descriptor" "__get__" "method_descriptor.__get__" :=
  .of (owner := "method_descriptor") (n := "__get__") (by rw [typeLookup_type, builtinLookup_eq_fast]; kernel_rfl) (by decide +kernel) (by decide +kernel) (by decide +kernel)
    (by first | exact .inl (by decide +kernel) | exact .inr (by decide +kernel)) (by rw [isSubtype_type]; kernel_rfl)
theorem entry_mget : entryFor table "method_descriptor.__get__" = some Builtin.«method_descriptor.__get__» := entryFor_of_tree (by kernel_rfl)
theorem args_mget (a b c : Value) : argsOk "method_descriptor.__get__" ⟨[a, b, c], []⟩ := by unfold argsOk; kernel_rfl
theorem type_append : typeOf (.builtin "list.append") = pure (.type "method_descriptor") := by show builtinType _ = _; rw [builtinType_eq_fast]; kernel_rfl
section
variable {prog : Program} {w : World} {A : Around} {E : Value → Shared → Prop} {s : Shared} {h₀ : Heap} {L D : Addr} {m : Str → Option Value} {news news' : List (Addr × Obj)}
theorem w_mget {o : Obj} {Q : Value → Shared → Prop} (F : Fr h₀ L s.heap m) (N : News h₀ L s.heap news) (hm : (D, o) ∈ news) (hc : o.cls = .type "list")
    (h : ∀ b h', Fr h₀ L h' m → News h₀ L h' ((b, boundA D) :: news) → (∀ p ∈ news, p.1 < b) → Q (.ref b) { s with heap := h' }) :
    wpAny (model prog w) A (call (.builtin "method_descriptor.__get__") [.builtin "list.append", .ref D, .type "list"]) Q E s := by
  refine wpAny_call_entry slot_mget type_append entry_mget ?_ (args_mget _ _ _)
  unfold Builtin.«method_descriptor.__get__»
  refine wpAny_bind (wpAny_of_eq (a := (.builtin "list.append", some (.ref D), some (.type "list"))) (by kernel_rfl) ?_)
  dsimp only
  rw [if_neg (by decide +kernel)]
  refine wpAny_bind ?_
  refine wpAny_bind (wpAny_of_eq (a := (Str.ofString "append", .type "list")) (by kernel_rfl) ?_)
  dsimp only
  refine wpAny_bind (wpAny_isInstance ⟨_, N.get hm, hc⟩ (b := true) (by rw [isSubtype_type]; kernel_rfl) ?_)
  refine wpAny_pure ?_
  refine wpAny_bind (wpAny_newObj_type (wpAny_pure ⟨_, rfl, ?_⟩))
  exact h _ _ (F.push _) (N.push F _) fun p hp => Heap.lt_size (N p hp).1
theorem dd_append : ObjectAttr.dataDescriptor? (some (.builtin "list.append")) (some (.builtin "method_descriptor.__get__")) = pure none := by
  have e1 : specialOf (.builtin "list.append") (Str.ofString "__set__") = pure none := by
    unfold specialOf
    rw [type_append]
    show typeLookup (.type "method_descriptor") (Str.ofString "__set__") = _
    rw [typeLookup_type, builtinLookup_eq_fast]; kernel_rfl
  have e2 : specialOf (.builtin "list.append") (Str.ofString "__delete__") = pure none := by
    unfold specialOf
    rw [type_append]
    show typeLookup (.type "method_descriptor") (Str.ofString "__delete__") = _
    rw [typeLookup_type, builtinLookup_eq_fast]; kernel_rfl
  have e3 : ObjectAttr.takesStores (.builtin "list.append") = pure false := by
    unfold ObjectAttr.takesStores
    show (do if (← specialOf (.builtin "list.append") (Str.ofString "__set__")).isSome then return true
             return (← specialOf (.builtin "list.append") (Str.ofString "__delete__")).isSome : Sem Bool) = _
    rw [e1, e2]
    rfl
  show (do if ← ObjectAttr.takesStores (.builtin "list.append") then pure (some _) else pure none : Sem (Option (Value × Value))) = _
  rw [e3]
  rfl
theorem w_find {vs : Array Value} {n : Nat} {Q : Value → Shared → Prop} {u : Tok} (F : Fr h₀ L s.heap m) (N : News h₀ L s.heap news) (hm : (D, ({ cls := .type "list", dict := none, data := .seq vs n } : Obj)) ∈ news)
    (h : ∀ b h', Fr h₀ L h' m → News h₀ L h' ((b, boundA D) :: news) → (∀ p ∈ news, p.1 < b) → Q (.ref b) { s with heap := h' }) :
    wpAny (model prog w) A (call (.builtin "list.__getattribute__") [.ref D, .str (Str.ofString "append") u]) Q E s := by
  have hx := N.get hm
  obtain ⟨hp, g, d, tk, os⟩ := s
  have hT : (⟨hp, g, d, tk, os⟩ : Shared).TypeIs (.ref D) "list" := ⟨_, hx, rfl⟩
  have l1 := PySem.F.slot_list_append.1
  have l2 := slot_mget.1
  refine wpAny_call_entry PySem.F.slot_list_getattribute hT am_entry_list_getattribute ?_ (PySem.F.args_list_getattribute_2 _ _)
  unfold Builtin.«object.__getattribute__»
  repeat (any_goals (first | assumption | wp_step))
  refine wpAny_of_eq (a := some (.builtin "method_descriptor.__get__")) (by rw [typeLookup_type, builtinLookup_eq_fast]; kernel_rfl) ?_
  refine wpAny_bind (wpAny_of_eq dd_append ?_)
  dsimp only
  unfold ObjectAttr.ownThenClass
  repeat (any_goals (first | assumption | ((with_reducible show wpAny _ _ (call (Value.builtin "method_descriptor.__get__") _ _) _ _ _); refine w_mget (s := ⟨hp, g, d, tk, os⟩) F N hm rfl (fun b h' F' N' hl => ?_)) | wp_step))
  exact ⟨_, rfl, h b h' F' N' hl⟩
theorem w_bound {vs : Array Value} {n : Nat} {Q : Value → Shared → Prop} (F : Fr h₀ L s.heap m) (N : News h₀ L s.heap news) (hm : (D, ({ cls := .type "list", dict := none, data := .seq vs n } : Obj)) ∈ news)
    (h : ∀ b h' k, Fr h₀ L h' m → News h₀ L h' ((b, boundA D) :: news) → (∀ p ∈ news, p.1 < b) → Q (.ref b) { s with heap := h', toks := k }) :
    wpAny (model prog w) A (getAttr (.ref D) (Str.ofString "append") true) Q E s := by
  have hx := N.get hm
  obtain ⟨hp, g, d, tk, os⟩ := s
  have hT : ∀ tk', (⟨hp, g, d, tk', os⟩ : Shared).TypeIs (.ref D) "list" := fun _ => ⟨_, hx, rfl⟩
  have f3 := PySem.F.slot_list_getattribute.lookup
  have f4 := PySem.F.slot_list_getattribute.bind (.ref D)
  unfold getAttr getAttrBy
  repeat (any_goals (first | assumption | exact hT _ | ((with_reducible show wpAny _ _ (call (Value.builtin "list.__getattribute__") _ _) _ _ _); refine w_find (s := ⟨hp, g, d, _, os⟩) F N hm (fun b h' F' N' hl => ?_)) | wp_step))
  exact h b h' _ F' N' hl
theorem w_check {vs : Array Value} {n : Nat} {x : Value} {Q : Unit → Shared → Prop} (N : News h₀ L s.heap news) (hm : (D, ({ cls := .type "list", dict := none, data := .seq vs n } : Obj)) ∈ news) (h : Q () s) :
    wpAny (model prog w) A (checkBoundCall "list.append" ⟨[.ref D, x], []⟩) Q E s := by
  have hT : s.TypeIs (.ref D) "list" := ⟨_, N.get hm, rfl⟩
  unfold checkBoundCall
  have e2 : Manifest.signature? "list.append" = some ⟨.oneArg, "list.append", "append", .self, [⟨"object", .posOnly, true⟩]⟩ := by kernel_rfl
  have e3 : Bind.checkArgs "list.append" ⟨.oneArg, s!"{Bind.lastOf "list"}.{Bind.lastOf "list.append"}", "append", .self, [⟨"object", .posOnly, true⟩]⟩ ⟨[.ref D, x], []⟩ = pure () := by kernel_rfl
  have e4 : builtinKind "list.append" = some .method := by kernel_rfl
  rw [e2, e4]
  dsimp only
  rw [if_neg (by decide)]
  refine wpAny_bind (wpAny_isInstance hT (b := false) (by rw [isSubtype_type]; kernel_rfl) ?_)
  rw [if_neg (by decide +kernel)]
  refine wpAny_bind (wpAny_bind ?_)
  refine wpAny_bind (wpAny_loadPart (N.get hm) ?_)
  refine wpAny_pure ?_
  dsimp only
  refine wpAny_pure ?_
  rw [if_neg Bool.false_ne_true]
  refine wpAny_bind (wpAny_typeOf hT ?_)
  dsimp only
  exact wpAny_of_eq e3 h
theorem w_callA {S : Addr} {ps : List Part} {n : Nat} {b : Addr} {x : Value} {p : Part} {Q : Value → Shared → Prop} (F : Fr h₀ L s.heap m) (N : News h₀ L s.heap news) (hb : (b, boundA D) ∈ news) (hm : (D, lstP S ps n) ∈ news) (hx : x = pv1 S p)
    (U : Upd D (lstP S ps n) (lstP S (ps ++ [p]) (n + 1)) news news') (hz : ps.length ≤ 10000000) (h : ∀ h', Fr h₀ L h' m → News h₀ L h' news' → Q .none { s with heap := h' }) :
    wpAny (model prog w) A (call (.ref b) [x]) Q E s := by
  refine wpAny_call (codeAny_of_tree ?_)
  show wpAny _ A.in1 (callAny (.ref b) ⟨[x], []⟩) _ _ s
  unfold callAny
  refine wpAny_bind (wpAny_load (N.get hb) ?_)
  dsimp only
  rw [if_pos (by decide)]
  show wpAny _ _ (if (Value.type "builtin_function_or_method" != Value.type "method") = true then (do
    checkBoundCall "list.append" ⟨[.ref D, x], []⟩
    again (.builtin "list.append" ⟨[.ref D, x], []⟩)) else _) _ _ _
  rw [if_pos (by decide)]
  refine wpAny_bind (w_check N hm ?_)
  refine wpAny_pure ⟨plainId_quiet PySem.F.slot_list_append.plain _, codeAny_builtin PySem.F.entry_list_append ?_⟩
  rw [Around.under_plainId PySem.F.slot_list_append.plain _]
  show wpAny _ _ (updateSeq D (·.push x) >>= fun _ => ret .none) _ _ s
  have ee : (pv S ps).toArray.push x = (pv S (ps ++ [p])).toArray := by rw [pv_append, hx]; simp [pv]
  have hsz : (pv S ps).toArray.size ≤ 10000000 := by rw [List.size_toArray, pv_length]; lia
  obtain ⟨pre, post, rfl, rfl, a1, a2⟩ := U.split
  have z := N (D, lstP S ps n) (List.mem_append.mpr (.inr (.head _)))
  have s1 := Heap.SameBut.update s.heap D (Obj.mapSeq (·.push x))
  have g1 := Heap.get?_update_self (h := s.heap) (a := D) (Obj.mapSeq (·.push x)) z.1 (by rw [mapSeq_push]; rfl)
  refine wpAny_bind (wpAny_updateSeq z.1 rfl (wpAny_pure ?_) (by rw [sizeLine_eq]; lia) (by rw [sizeLine_eq, Array.size_push]; lia))
  refine h _ (F.change s1 z.2.1 z.2.2) (news_set N a1 a2 s1 ?_)
  rw [g1]
  show some (Obj.mapSeq _ (lstP S ps n)) = some ({ cls := .type "list", data := .seq (pv S (ps ++ [p])).toArray (n + 1) } : Obj)
  rw [← ee, mapSeq_push]
end
end Mine
end -- IlB1
section -- IlR7
theorem Mine.none_IlR7 : True := by
  k_with_none
  trivial
open PySem PySem.W PyProof.Rows PySem.Calls PySem.Spec PySem.Builtin PySem.Builtin.Str
namespace Mine
theorem w_star : Str.ofString "*" = mkS [42] := by decide +kernel
theorem w_quest : Str.ofString "?" = mkS [63] := by decide +kernel
theorem w_open : Str.ofString "[" = mkS [91] := by decide +kernel
theorem w_bang : Str.ofString "!" = mkS [33] := by decide +kernel
theorem w_shut : Str.ofString "]" = mkS [93] := by decide +kernel
theorem w_hyph : Str.ofString "-" = mkS [45] := by decide +kernel
theorem w_bsl : Str.ofString "\\" = mkS [92] := by decide +kernel
theorem w_bsl2 : Str.ofString "\\\\" = mkS [92, 92] := by decide +kernel
theorem w_never : Str.ofString "(?!)" = mkS [40, 63, 33, 41] := by decide +kernel
theorem w_hat : Str.ofString "^" = mkS [94] := by decide +kernel
theorem w_bopen : Str.ofString "\\[" = mkS [92, 91] := by decide +kernel
theorem w_dots : Str.ofString ".*" = mkS [46, 42] := by decide +kernel
theorem w_lazy : Str.ofString "(?>.*?" = mkS [40, 63, 62, 46, 42, 63] := by decide +kernel
theorem w_par : Str.ofString ")" = mkS [41] := by decide +kernel
theorem w_pre : Str.ofString "(?s:" = mkS [40, 63, 115, 58] := by decide +kernel
theorem w_end : Str.ofString ")\\Z" = mkS [41, 92, 90] := by decide +kernel
/-- a halt of the walk -/
noncomputable def Stop (P : Prop) : Prop := P
theorem Stop.go {P : Prop} (h : Stop P) : P := h
theorem Stop.of {P : Prop} (h : P) : Stop P := h
theorem news_tail {h₀ h : Heap} {L : Addr} {p : Addr × Obj} {r : List (Addr × Obj)} (N : News h₀ L h (p :: r)) : News h₀ L h r := fun q hq => N q (.tail _ hq)
/-- how a turn of a while over the names i, c, j, stuff and a ledger of kind T ends -/
noncomputable def PTurn (h₀ : Heap) (L : Addr) (s : Shared) (m : Str → Option Value) (i c j u : Str) (T : List Part → List (Addr × Obj) → Prop) (P : Int → List Part → Prop) (meas : Int → Nat) (k : Int) (Q : Flow → Shared → Prop) (f : Flow) (s₃ : Shared) : Prop :=
  match f with
  | .next | .cont => ∃ h' tk m' k' t' acc' n', s₃ = { s with heap := h', toks := tk } ∧ Fr h₀ L h' m' ∧ (∀ y, y ≠ i → y ≠ c → y ≠ j → y ≠ u → m' y = m y) ∧ m' i = some (.int k' t') ∧ News h₀ L h' n' ∧ T acc' n' ∧ meas k' < meas k ∧ P k' acc'
  | .brk => Q .next s₃
  | .ret v => Q (.ret v) s₃
section
variable {prog : Program} {w : World} {A : Around} {E : Value → Shared → Prop} {Q : Flow → Shared → Prop} {s : Shared} {env : Env} {h₀ : Heap} {L : Addr} {m : Str → Option Value} {news : List (Addr × Obj)}
theorem pturn_next {i c j u : Str} {T : List Part → List (Addr × Obj) → Prop} {P : Int → List Part → Prop} {meas : Int → Nat} {k k' : Int} {h' : Heap} {tk : Nat} {t' : Tok} {m' : Str → Option Value} {n' : List (Addr × Obj)} {acc' : List Part}
    (F : Fr h₀ L h' m') (N : News h₀ L h' n') (hT : T acc' n') (hm : ∀ y, y ≠ i → y ≠ c → y ≠ j → y ≠ u → m' y = m y) (hi : m' i = some (.int k' t')) (hlt : meas k' < meas k) (hP : P k' acc') :
    PTurn h₀ L s m i c j u T P meas k Q .next { s with heap := h', toks := tk } := ⟨h', tk, m', k', t', acc', n', rfl, F, hm, hi, N, hT, hlt, hP⟩
theorem while_parts (i c j u : Str) (hic : i ≠ c) (hij : i ≠ j) (hiu : i ≠ u) (hcj : c ≠ j) (hcu : c ≠ u) (hju : j ≠ u) (T : List Part → List (Addr × Obj) → Prop) (P : Int → List Part → Prop) (meas : Int → Nat) {test : Expr} {body : List Stmt} {pos : Pos} {k₀ : Int} {t₀ : Tok} {acc₀ : List Part}
    (F : Fr h₀ L s.heap m) (N : News h₀ L s.heap news) (hT : T acc₀ news) (hm : m i = some (.int k₀ t₀)) (hP : P k₀ acc₀)
    (turn : ∀ k t acc n₁ vc vj vu h₁ tk₁, P k acc → T acc n₁ → Fr h₀ L h₁ (upd (upd (upd (upd m u vu) j vj) c vc) i (some (.int k t))) → News h₀ L h₁ n₁ →
      wpAny (model prog w) A (isTrue test env (eval test env)) (fun b s₂ => if b = true then wpAny (model prog w) A (execs body env) (PTurn h₀ L s m i c j u T P meas k Q) E s₂ else Q .next s₂) E { s with heap := h₁, toks := tk₁ })
    (hE : PassesOwn (model prog w) A env E) :
    wpAny (model prog w) A (exec (.While test body [] pos) env) Q E s := by
  refine While_inv2 (fun n m₁ n₁ => ∃ k t acc, (∀ y, y ≠ i → y ≠ c → y ≠ j → y ≠ u → m₁ y = m y) ∧ m₁ i = some (.int k t) ∧ T acc n₁ ∧ P k acc ∧ n = meas k) (n₀ := meas k₀) F N ⟨k₀, t₀, acc₀, fun _ _ _ _ _ => rfl, hm, hT, hP, rfl⟩ ?_ hE
  rintro n m₁ n₁ h₁ tk₁ F₁ N₁ ⟨k, t, acc, e1, e2, e3, e4, rfl⟩
  have em := upd4 (m := m) (m' := m₁) hic hij hiu hcj hcu hju e1
  rw [e2] at em
  rw [em] at F₁
  refine wpAny_mono (turn k t acc n₁ _ _ _ h₁ tk₁ e4 e3 F₁ N₁) (fun b s₂ hb => ?_) fun _ _ x => x
  cases b with
  | false => simpa using hb
  | true =>
    simp only [if_true] at hb ⊢
    refine wpAny_mono hb (fun f s₃ h₃ => ?_) fun _ _ x => x
    cases f with
    | next =>
      obtain ⟨h', tk, m', k', t', acc', n', e0, a, b, c', d, e, f, g⟩ := h₃
      exact ⟨h', tk, m', n', _, e0, a, d, f, k', t', acc', b, c', e, g, rfl⟩
    | cont =>
      obtain ⟨h', tk, m', k', t', acc', n', e0, a, b, c', d, e, f, g⟩ := h₃
      exact ⟨h', tk, m', n', _, e0, a, d, f, k', t', acc', b, c', e, g, rfl⟩
    | brk => exact h₃
    | ret v => exact h₃
/-- where the ways of a statement that turns one int name meet -/
noncomputable def JoinInt (h₀ : Heap) (L : Addr) (s : Shared) (m : Str → Option Value) (x : Str) (news : List (Addr × Obj)) (P : Int → Prop) (f : Flow) (s' : Shared) : Prop :=
  f = .next ∧ ∃ j' t' h' tk', s' = { s with heap := h', toks := tk' } ∧ Fr h₀ L h' (upd m x (some (.int j' t'))) ∧ News h₀ L h' news ∧ P j'
theorem join_set {x : Str} {P : Int → Prop} {j' : Int} {t' : Tok} {h' : Heap} {tk' : Nat} (F : Fr h₀ L h' (upd m x (some (.int j' t')))) (N : News h₀ L h' news) (hP : P j') : JoinInt h₀ L s m x news P .next { s with heap := h', toks := tk' } :=
  ⟨rfl, j', t', h', tk', rfl, F, N, hP⟩
theorem join_same {x : Str} {P : Int → Prop} {j' : Int} {t' : Tok} {h' : Heap} {tk' : Nat} (F : Fr h₀ L h' m) (hm : m x = some (.int j' t')) (N : News h₀ L h' news) (hP : P j') : JoinInt h₀ L s m x news P .next { s with heap := h', toks := tk' } :=
  ⟨rfl, j', t', h', tk', rfl, by rw [← hm, upd_self]; exact F, N, hP⟩
theorem if_join (x : Str) (P : Int → Prop) {c : Sem Flow} (h1 : wpAny (model prog w) A c (JoinInt h₀ L s m x news P) E s)
    (h2 : ∀ j' t' h' tk', Fr h₀ L h' (upd m x (some (.int j' t'))) → News h₀ L h' news → P j' → Q .next { s with heap := h', toks := tk' }) : wpAny (model prog w) A c Q E s := by
  refine wpAny_mono h1 (fun f s' h => ?_) fun _ _ x => x
  obtain ⟨rfl, j', t', h', tk', rfl, F, N, hP⟩ := h
  exact h2 j' t' h' tk' F N hP
noncomputable def StandsA (D u : Addr) (h : Heap) : Prop := h.get? u = some (boundA D)
theorem standsA {D u : Addr} {h : Heap} (N : News h₀ L h news) (hm : (u, boundA D) ∈ news) : StandsA D u h := N.get hm
section
variable {M : Model}
theorem callWith_fieldsA {D : Addr} {pos : Pos} {u : Addr} {first : List Value} {args : List (Bool × Sem Value)} {Q : Value → Shared → Prop} (hplain : args.any (·.1) = false)
    (h : wpAny M A (evalArgs (.ref u) true args []) (fun x s₁ => StandsA D u s₁.heap ∧ wpAny M A (call (.ref u) (first ++ x.pos) x.kw) Q E s₁) E s) : wpAny M A (callWith pos (.ref u) first args []) Q E s := by
  unfold callWith
  refine wpAny_bind (wpAny_holding (wpAny_mono h (fun x s₁ h₁ => wpAny_bind (wpAny_standAt ?_)) fun _ _ x => x))
  obtain ⟨ho, hcall⟩ := h₁
  simp only [hplain, List.any_nil, Bool.or_false]
  refine wpAny_bind (m := keeperOf (.ref u)) ?_
  unfold keeperOf
  refine wpAny_bind (wpAny_load ho ?_)
  simp only [boundA, show (Value.type "builtin_function_or_method" != Value.type "method") = true by decide, show (Value.type "builtin_function_or_method" == Value.type "builtin_function_or_method" || Value.type "builtin_function_or_method" == Value.type "method-wrapper") = true by decide, if_true]
  refine wpAny_pure ?_
  exact wpAny_bind (wpAny_mono hcall (fun r s₂ hr => wpAny_bind (wpAny_holding (wpAny_point (wpAny_pure hr)))) fun _ _ x => x)
theorem callWith_boundA {D : Addr} {pos : Pos} {u : Addr} {first : List Value} {env : Env} {e : Expr} {rest : List Expr} {Q : Value → Shared → Prop} (_N : News h₀ L s.heap news) (_hm : (u, boundA D) ∈ news)
    (h : wpAny M A (spliced (backTo pos (starEach (e :: rest) env))) (fun vs s₁ => StandsA D u s₁.heap ∧ wpAny M A (call (.ref u) (first ++ vs)) Q E s₁) E s)
    (he : starEach (e :: rest) env = (false, eval e env) :: starEach rest env := by rfl) (hplain : (backTo pos (starEach rest env)).any (·.1) = false := by rfl) :
    wpAny M A (callWith pos (.ref u) first (backTo pos (starEach (e :: rest) env)) []) Q E s := by
  rw [he] at h ⊢
  refine callWith_fieldsA (D := D) (by show (false || (backTo pos (starEach rest env)).any (·.1)) = false; rw [hplain]; rfl) ?_
  exact evalArgs_plain h
end
end
end Mine
end -- IlR7
section -- IlS1
theorem Mine.none_IlS1 : True := by
  k_with_none
  trivial
open PySem PySem.W PyProof.Rows PySem.Calls PySem.Spec PySem.Builtin PySem.Builtin.Str PySem.Builtin.Re
namespace Mine
/-- the code of the pattern -/
noncomputable abbrev reCode : Array Nat := #[14, 14, 4, 1, 1, 9, 0, 64, 0, 1342177280, 0, 0, 0, 0, 0, 17, 0, 13, 11, 9, 0, 64, 0, 1342177280, 0, 0, 0, 0, 0, 17, 1, 1]
noncomputable def isSpec (c : Nat) : Bool := c == 38 || c == 124 || c == 126
theorem spec_low : (List.range 256).all (fun c => ((reCode.getD (6 + c / 32) 0).testBit (c % 32)) == isSpec c && ((reCode.getD (20 + c / 32) 0).testBit (c % 32)) == isSpec c) = true := by decide
theorem spec_at (c : Nat) (h : c < 256) : (reCode.getD (6 + c / 32) 0).testBit (c % 32) = isSpec c ∧ (reCode.getD (20 + c / 32) 0).testBit (c % 32) = isSpec c := by
  have := List.all_eq_true.mp spec_low c (List.mem_range.mpr h)
  simpa using this
theorem spec_high (c : Nat) (h : ¬ c < 256) : isSpec c = false := by
  unfold isSpec
  simp
  lia
theorem inSet_first (c : Nat) (seen : Sre.Seen) : ∃ seen', Sre.inSet reCode c reCode.size 5 true seen = .ok (isSpec c, seen') := by
  show ∃ seen', Sre.inSet reCode c (30 + 1 + 1) 5 true seen = .ok (isSpec c, seen')
  have e : Sre.inSet reCode c (30 + 1 + 1) 5 true seen = (if c < 256 && (reCode.getD (5 + (1 + c / 32)) 0).testBit (c % 32) then .ok (true, seen.add 9) else .ok (false, (seen.add 9).add 0)) := rfl
  rw [e, show 5 + (1 + c / 32) = 6 + c / 32 by lia]
  by_cases h : c < 256
  · rw [(spec_at c h).1]
    simp only [h, decide_true, Bool.true_and]
    cases isSpec c
    · exact ⟨_, rfl⟩
    · exact ⟨_, rfl⟩
  · rw [spec_high c h]
    simp only [h, decide_false, Bool.false_and]
    exact ⟨_, rfl⟩
theorem inSet_body (c : Nat) (seen : Sre.Seen) : ∃ seen', Sre.inSet reCode c reCode.size 19 true seen = .ok (isSpec c, seen') := by
  show ∃ seen', Sre.inSet reCode c (30 + 1 + 1) 19 true seen = .ok (isSpec c, seen')
  have e : Sre.inSet reCode c (30 + 1 + 1) 19 true seen = (if c < 256 && (reCode.getD (19 + (1 + c / 32)) 0).testBit (c % 32) then .ok (true, seen.add 9) else .ok (false, (seen.add 9).add 0)) := rfl
  rw [e, show 19 + (1 + c / 32) = 20 + c / 32 by lia]
  by_cases h : c < 256
  · rw [(spec_at c h).2]
    simp only [h, decide_true, Bool.true_and]
    cases isSpec c
    · exact ⟨_, rfl⟩
    · exact ⟨_, rfl⟩
  · rw [spec_high c h]
    simp only [h, decide_false, Bool.false_and]
    exact ⟨_, rfl⟩
section
variable {m : Sre.M}
theorem adm_none (hc : m.code = reCode) : ∀ (fuel s : Nat) (seen : Sre.Seen), (∀ i, s ≤ i → i < m.lim → isSpec (m.text.getD i 0) = false) → ∃ seen', m.admitted fuel s seen = .ok (none, seen')
  | 0, s, seen, _ => ⟨seen, rfl⟩
  | fuel + 1, s, seen, h => by
    unfold Sre.M.admitted
    split
    · exact ⟨seen, rfl⟩
    · rename_i hs
      obtain ⟨s1, e1⟩ := inSet_first (m.text.getD s 0) seen
      rw [h s (Nat.le_refl _) (by lia)] at e1
      rw [hc, e1]
      exact adm_none hc fuel (s + 1) s1 fun i h1 h2 => h i (by lia) h2
theorem adm_some (hc : m.code = reCode) {k : Nat} (hk : k < m.lim) (hy : isSpec (m.text.getD k 0) = true) : ∀ (fuel s : Nat) (seen : Sre.Seen), s ≤ k → k < s + fuel → (∀ i, s ≤ i → i < k → isSpec (m.text.getD i 0) = false) → ∃ seen', m.admitted fuel s seen = .ok (some k, seen')
  | 0, s, seen, h1, h2, _ => by lia
  | fuel + 1, s, seen, h1, h2, h => by
    unfold Sre.M.admitted
    rw [if_neg (by lia)]
    obtain ⟨s1, e1⟩ := inSet_first (m.text.getD s 0) seen
    rw [hc]
    by_cases e : s = k
    · subst e
      rw [hy] at e1
      rw [e1]
      exact ⟨s1, rfl⟩
    · rw [h s (Nat.le_refl _) (by lia)] at e1
      rw [e1]
      exact adm_some hc hk hy fuel (s + 1) s1 (by lia) (by lia) fun i h1 h2 => h i (by lia) h2
end
/-- the machine ahead of a search -/
noncomputable def mach0 (text : Array Nat) (start : Nat) : Sre.M :=
  { code := reCode, text, lim := text.size, start, lastStart := text.size, pc := 15, pos := start, handed := start, marks := #[none, none], mustAdvance := false, seen := ({} : Sre.Seen).add 14 }
/-- the machine on its way at k -/
noncomputable def mach (text : Array Nat) (k pc pos handed : Nat) (marks : Array (Option Nat)) (lastmark lastindex : Int) (seen : Sre.Seen) (answer : Option Bool) : Sre.M :=
  { code := reCode, text, lim := text.size, start := k, lastStart := text.size, pc, pos, handed, marks, lastmark, lastindex, frames := [{ wait := .nextStart, pc := 15, pos := k, outermost := true }], weight := 1, answer, seen }
/-- the machine that found k -/
noncomputable def machF (text : Array Nat) (k : Nat) (seen : Sre.Seen) : Sre.M :=
  { code := reCode, text, lim := text.size, start := k, lastStart := text.size, pc := 15, pos := k, handed := k + 1, marks := #[some k, some (k + 1)], lastmark := 1, lastindex := 1, answer := some true, seen, outcome := some .matched }
theorem search_eq (text : Array Nat) (start : Nat) (h : start < text.size) : Sre.forSearch reCode text 1 start text.size false = (mach0 text start).attemptFrom start true := by
  have e : Sre.forSearch reCode text 1 start text.size false = if (decide (start > text.size) || decide (text.size - start < 1)) = true then { mach0 text start with lastStart := 0 }.say false else (mach0 text start).attemptFrom start true := by kernel_rfl
  rw [e, if_neg (by simp; lia)]
theorem search_end (text : Array Nat) (start : Nat) (h : text.size ≤ start) : Sre.forSearch reCode text 1 start text.size false = { mach0 text start with lastStart := 0 }.say false := by
  have e : Sre.forSearch reCode text 1 start text.size false = if (decide (start > text.size) || decide (text.size - start < 1)) = true then { mach0 text start with lastStart := 0 }.say false else (mach0 text start).attemptFrom start true := by kernel_rfl
  rw [e, if_pos (by simp; lia)]
theorem from_none (text : Array Nat) (start : Nat) (h : ∀ i, start ≤ i → i < text.size → isSpec (text.getD i 0) = false) : ∃ seen, (mach0 text start).attemptFrom start true = { mach0 text start with seen }.say false := by
  obtain ⟨s1, e1⟩ := adm_none (m := mach0 text start) rfl (text.size + 1 - start) start (({} : Sre.Seen).add 14) h
  refine ⟨s1, ?_⟩
  have e : (mach0 text start).attemptFrom start true = (match (mach0 text start).admitted (text.size + 1 - start) start (({} : Sre.Seen).add 14) with
    | .ok (some s, seen) => { mach0 text start with mustAdvance := false, seen }.attemptAt s true
    | .ok (none, seen) => { mach0 text start with seen }.say false
    | .error why => (mach0 text start).stick why) := rfl
  rw [e, e1]
theorem from_some (text : Array Nat) (start k : Nat) (h0 : start ≤ k) (hk : k < text.size) (hy : isSpec (text.getD k 0) = true) (h : ∀ i, start ≤ i → i < k → isSpec (text.getD i 0) = false) :
    ∃ seen, (mach0 text start).attemptFrom start true = mach text k 15 k k #[none, none] (-1) (-1) seen none := by
  obtain ⟨s1, e1⟩ := adm_some (m := mach0 text start) rfl (k := k) hk hy (text.size + 1 - start) start (({} : Sre.Seen).add 14) h0 (by lia) h
  refine ⟨s1, ?_⟩
  have e : (mach0 text start).attemptFrom start true = (match (mach0 text start).admitted (text.size + 1 - start) start (({} : Sre.Seen).add 14) with
    | .ok (some s, seen) => { mach0 text start with mustAdvance := false, seen }.attemptAt s true
    | .ok (none, seen) => { mach0 text start with seen }.say false
    | .error why => (mach0 text start).stick why) := rfl
  rw [e, e1]
  rfl
theorem step1 (text : Array Nat) (k : Nat) (seen : Sre.Seen) : (mach text k 15 k k #[none, none] (-1) (-1) seen none).step = mach text k 17 k k #[some k, none] 0 (-1) (seen.add 17) none := rfl
theorem step2 (text : Array Nat) (k : Nat) (seen : Sre.Seen) (hk : k < text.size) (hy : isSpec (text.getD k 0) = true) : ∃ seen', (mach text k 17 k k #[some k, none] 0 (-1) seen none).step = mach text k 29 (k + 1) k #[some k, none] 0 (-1) seen' none := by
  have e : (mach text k 17 k k #[some k, none] 0 (-1) seen none).step = (if k ≥ text.size then (mach text k 17 k k #[some k, none] 0 (-1) (seen.add 13) none).say false else
    match Sre.inSet reCode (text.getD k 0) reCode.size 19 true (seen.add 13) with
    | .error why => (mach text k 17 k k #[some k, none] 0 (-1) (seen.add 13) none).stick why
    | .ok (false, seen) => (mach text k 17 k k #[some k, none] 0 (-1) seen none).say false
    | .ok (true, seen) => mach text k 29 (k + 1) k #[some k, none] 0 (-1) seen none) := rfl
  obtain ⟨s1, e1⟩ := inSet_body (text.getD k 0) (seen.add 13)
  rw [hy] at e1
  rw [e, if_neg (by lia), e1]
  exact ⟨s1, rfl⟩
theorem step3 (text : Array Nat) (k : Nat) (seen : Sre.Seen) : (mach text k 29 (k + 1) k #[some k, none] 0 (-1) seen none).step = mach text k 31 (k + 1) k #[some k, some (k + 1)] 1 1 (seen.add 17) none := by kernel_rfl
theorem step4 (text : Array Nat) (k : Nat) (seen : Sre.Seen) : (mach text k 31 (k + 1) k #[some k, some (k + 1)] 1 1 seen none).step = mach text k 31 (k + 1) (k + 1) #[some k, some (k + 1)] 1 1 (seen.add 1) (some true) := rfl
theorem step56 (text : Array Nat) (k : Nat) (seen : Sre.Seen) : (mach text k 31 (k + 1) (k + 1) #[some k, some (k + 1)] 1 1 seen (some true)).runFor 4 = machF text k seen := rfl
theorem run_first (text : Array Nat) (k : Nat) (seen : Sre.Seen) (hk : k < text.size) (hy : isSpec (text.getD k 0) = true) : ∃ seen', (mach text k 15 k k #[none, none] (-1) (-1) seen none).runFor 4 = mach text k 31 (k + 1) (k + 1) #[some k, some (k + 1)] 1 1 seen' (some true) := by
  obtain ⟨s1, e1⟩ := step2 text k (seen.add 17) hk hy
  refine ⟨(s1.add 17).add 1, ?_⟩
  have e : (mach text k 15 k k #[none, none] (-1) (-1) seen none).runFor 4 = ((mach text k 17 k k #[some k, none] 0 (-1) (seen.add 17) none).runFor 3) := rfl
  have e2 : (mach text k 17 k k #[some k, none] 0 (-1) (seen.add 17) none).runFor 3 = (mach text k 17 k k #[some k, none] 0 (-1) (seen.add 17) none).step.runFor 2 := rfl
  have e3 : (mach text k 29 (k + 1) k #[some k, none] 0 (-1) s1 none).runFor 2 = (mach text k 29 (k + 1) k #[some k, none] 0 (-1) s1 none).step.step := rfl
  rw [e, e2, e1, e3, step3]
  rfl
section
variable {M : Model} {A : Around} {E : Value → Shared → Prop} {s : Shared}
theorem rules_all (f : Nat → Bool) (g : Nat → String) {Q : PUnit → Shared → Prop} : ∀ l : List Nat, Q ⟨⟩ s → wpAny M A (forIn l PUnit.unit fun i _ => (if f i = true then (do rule (g i); pure (ForInStep.yield PUnit.unit)) else pure (ForInStep.yield PUnit.unit) : Sem (ForInStep PUnit))) Q E s
  | [], h => wpAny_pure h
  | i :: l, h => by
    rw [List.forIn_cons]
    refine wpAny_bind ?_
    split
    · exact wpAny_bind (wpAny_rule (wpAny_pure (rules_all f g l h)))
    · exact wpAny_pure (rules_all f g l h)
theorem run_none {m : Sre.M} {Q : Option Sre.M → Shared → Prop} (e : m.runFor 4 = { m with outcome := some .failed }) (h : Q none s) : wpAny M A (reRunToEnd m) Q E s := by
  unfold reRunToEnd
  refine wpAny_bind ?_
  show wpAny M A (reDrive (18446744073709551615 + 1) m) _ E s
  unfold reDrive
  rw [show reTurnSteps = 4 from rfl, e]
  refine wpAny_pure ?_
  refine wpAny_bind ?_
  exact rules_all _ _ _ (by exact wpAny_pure h)
theorem run_some {m m1 m2 : Sre.M} {Q : Option Sre.M → Shared → Prop} (e : m.runFor 4 = m1) (h1 : m1.outcome = none) (e2 : m1.runFor 4 = m2) (h2 : m2.outcome = some .matched) (h : Q (some m2) s) : wpAny M A (reRunToEnd m) Q E s := by
  unfold reRunToEnd
  refine wpAny_bind ?_
  show wpAny M A (reDrive (18446744073709551614 + 1 + 1) m) _ E s
  unfold reDrive
  rw [show reTurnSteps = 4 from rfl, e]
  simp only [h1, Option.isSome_none]
  refine wpAny_bind (wpAny_rule ?_)
  unfold reDrive
  rw [show reTurnSteps = 4 from rfl, e2]
  simp only [h2, Option.isSome_some]
  refine wpAny_pure ?_
  refine wpAny_bind ?_
  refine rules_all _ _ _ ?_
  rw [h2]
  exact wpAny_pure h
/-- a search that finds nothing -/
theorem w_search_none {text : Array Nat} {start : Nat} {Q : Option Sre.M → Shared → Prop} (h : ∀ i, start ≤ i → i < text.size → isSpec (text.getD i 0) = false) (hq : Q none s) :
    wpAny M A (reRunToEnd (Sre.forSearch reCode text 1 start text.size false)) Q E s := by
  by_cases hs : start < text.size
  · rw [search_eq text start hs]
    obtain ⟨seen, e⟩ := from_none text start h
    rw [e]
    exact run_none rfl hq
  · rw [search_end text start (by lia)]
    exact run_none rfl hq
/-- a search that finds k -/
theorem w_search_some {text : Array Nat} {start k : Nat} {Q : Option Sre.M → Shared → Prop} (h0 : start ≤ k) (hk : k < text.size) (hy : isSpec (text.getD k 0) = true) (h : ∀ i, start ≤ i → i < k → isSpec (text.getD i 0) = false)
    (hq : ∀ seen, Q (some (machF text k seen)) s) : wpAny M A (reRunToEnd (Sre.forSearch reCode text 1 start text.size false)) Q E s := by
  rw [search_eq text start (by lia)]
  obtain ⟨seen, e⟩ := from_some text start k h0 hk hy h
  rw [e]
  obtain ⟨seen', e'⟩ := run_first text k seen hk hy
  exact run_some e' rfl (step56 text k seen') rfl (hq seen')
end
end Mine
end -- IlS1
section -- IlS2
theorem Mine.none_IlS2 : True := by
  k_with_none
  trivial
open PySem PySem.W PyProof.Rows PySem.Calls PySem.Spec PySem.Builtin PySem.Builtin.Str PySem.Builtin.Re
set_option maxHeartbeats 4000000
namespace Mine
theorem plain_subLoop : plainId "re.Pattern.sub.loop" = true := by decide +kernel
theorem entry_subLoop : entryFor table "re.Pattern.sub.loop" = some Builtin.«re.Pattern.sub.loop» := entryFor_of_tree (by kernel_rfl)
theorem entry_sub : entryFor table "re.Pattern.sub" = some Builtin.«re.Pattern.sub» := entryFor_of_tree (by kernel_rfl)
/-- the pattern, and its code's tuple -/
noncomputable abbrev reItems : List Value := [.int 14 0, .int 14 0, .int 4 0, .int 1 0, .int 1 0, .int 9 0, .int 0 0, .int 64 0, .int 0 0, .int 1342177280 0, .int 0 0, .int 0 0, .int 0 0, .int 0 0, .int 0 0, .int 17 0, .int 0 0, .int 13 0, .int 11 0, .int 9 0, .int 0 0, .int 64 0, .int 0 0, .int 1342177280 0, .int 0 0, .int 0 0, .int 0 0, .int 0 0, .int 0 0, .int 17 0, .int 1 0, .int 1 0]
theorem re_items : (reItems.toArray.map reRawOf).map (fun (i : Int) => i.toNat) = reCode := by simp [reItems, reRawOf]
noncomputable abbrev reTup : Obj := ⟨.type "tuple", none, .seq ([.int 14 0, .int 14 0, .int 4 0, .int 1 0, .int 1 0, .int 9 0, .int 0 0, .int 64 0, .int 0 0, .int 1342177280 0, .int 0 0, .int 0 0, .int 0 0, .int 0 0, .int 0 0, .int 17 0, .int 0 0, .int 13 0, .int 11 0, .int 9 0, .int 0 0, .int 64 0, .int 0 0, .int 1342177280 0, .int 0 0, .int 0 0, .int 0 0, .int 0 0, .int 0 0, .int 17 0, .int 1 0, .int 1 0] : List Value).toArray 0, #[]⟩
noncomputable abbrev rePat : Obj := ⟨.type "re.Pattern", none, .fields #[.str (PySem.Str.ofString "([&~|])") 301, .int 32 336, .int 1 0, .none, .none, .ref 49, .int 0 0], #[]⟩
noncomputable def barL (x : List Nat) : List Nat := x.flatMap fun c => if isSpec c then [92, c] else [c]
theorem barL_app (x y : List Nat) : barL (x ++ y) = barL x ++ barL y := by unfold barL; simp
theorem barL_free (x : List Nat) (h : ∀ c ∈ x, isSpec c = false) : barL x = x := by
  induction x with
  | nil => rfl
  | cons c x ih =>
    have : barL (c :: x) = barL [c] ++ barL x := barL_app [c] x
    rw [this, ih fun d hd => h d (.tail _ hd)]
    unfold barL
    simp [h c (.head _)]
/-- where the first barred sign stands -/
theorem first_spec (x : List Nat) (k : Nat) : (∀ i, k ≤ i → i < x.length → isSpec (x.getD i 0) = false) ∨ ∃ j, k ≤ j ∧ j < x.length ∧ isSpec (x.getD j 0) = true ∧ ∀ i, k ≤ i → i < j → isSpec (x.getD i 0) = false := by
  by_cases h : ∀ i, k ≤ i → i < x.length → isSpec (x.getD i 0) = false
  · exact .inl h
  · right
    have : ∃ j, k ≤ j ∧ j < x.length ∧ isSpec (x.getD j 0) = true := by
      apply Classical.byContradiction
      intro q
      apply h
      intro i h1 h2
      cases e : isSpec (x.getD i 0)
      · rfl
      · exact absurd ⟨i, h1, h2, e⟩ q
    obtain ⟨j, hj⟩ := this
    have key : ∀ n j, j - k ≤ n → k ≤ j → j < x.length → isSpec (x.getD j 0) = true → ∃ j, k ≤ j ∧ j < x.length ∧ isSpec (x.getD j 0) = true ∧ ∀ i, k ≤ i → i < j → isSpec (x.getD i 0) = false := by
      intro n
      induction n with
      | zero => intro j h1 h2 h3 h4; exact ⟨j, h2, h3, h4, fun i _ _ => by lia⟩
      | succ n ih =>
        intro j h1 h2 h3 h4
        by_cases q : ∃ i, k ≤ i ∧ i < j ∧ isSpec (x.getD i 0) = true
        · obtain ⟨i, a, b, c⟩ := q
          exact ih i (by lia) a (by lia) c
        · refine ⟨j, h2, h3, h4, fun i a b => ?_⟩
          cases e : isSpec (x.getD i 0)
          · rfl
          · exact absurd ⟨i, a, b, e⟩ q
    exact key _ j (Nat.le_refl _) hj.1 hj.2.1 hj.2.2
section
variable {M : Model} {A : Around} {E : Value → Shared → Prop} {s : Shared}
noncomputable abbrev tgt (x : List Nat) (t : Tok) : ReTarget := { pattern := .ref 50, string := .str (mkS x) t, code := reCode, text := x.toArray, kind := 0, groups := 1, pos := 0, lim := x.toArray.size }
theorem w_target {x : List Nat} {t : Tok} {Q : ReTarget → Shared → Prop} (h1 : s.heap.get? 50 = some rePat) (h2 : s.heap.get? 49 = some reTup) (h : Q (tgt x t) s) : wpAny M A (reWholeTarget (.ref 50) (.str (mkS x) t)) Q E s := by
  unfold reWholeTarget
  refine wpAny_bind (wpAny_fieldsOf h1 rfl ?_)
  refine wpAny_bind (wpAny_pure ?_)
  refine wpAny_bind (wpAny_pure ?_)
  show wpAny M A (reRawItems (.ref 49) >>= _) Q E s
  refine wpAny_bind ?_
  unfold reRawItems
  refine wpAny_bind (wpAny_seqItems h2 rfl ?_)
  refine wpAny_pure (wpAny_pure ?_)
  show Q { pattern := .ref 50, string := .str (mkS x) t, code := (reItems.toArray.map reRawOf).map (fun (i : Int) => i.toNat), text := x.toArray, kind := 0, groups := 1, pos := 0, lim := x.toArray.size } s
  rw [re_items]
  exact h
theorem w_slice {x : List Nat} {a b : Nat} {Q : Value → Shared → Prop} (hx : x.length ≤ 10000000) (h : ∀ t' k, Q (.str (mkS ((x.take b).drop a)) t') { s with toks := k }) : wpAny M A (reSlice x.toArray 0 a b) Q E s := by
  have e : (⟨x.toArray.extract a b⟩ : Str) = mkS ((x.take b).drop a) := by
    unfold mkS
    congr 1
    simp [List.drop_take]
  show wpAny M A (mkStr ⟨x.toArray.extract a b⟩) Q E s
  rw [e]
  refine wpAny_mkStr (h _ _) ?_
  rw [mkS_len, sizeLine_eq]
  simp
  lia
end
section
variable {prog : Program} {w : World} {A : Around} {E : Value → Shared → Prop} {s : Shared} {h₀ : Heap} {L P q : Addr} {m : Str → Option Value} {news : List (Addr × Obj)}
noncomputable abbrev matchObj (x : List Nat) (t : Tok) (T : Addr) : Obj := { cls := .type "re.Match", data := .fields #[.str (mkS x) t, .ref 50, rawInt 0, rawInt (x.toArray.size : Nat), rawInt 1, .ref T] }
noncomputable abbrev spanObj (k : Nat) : Obj := { cls := .type "tuple", data := .seq #[rawInt (k : Nat), rawInt ((k + 1 : Nat) : Int), rawInt (k : Nat), rawInt ((k + 1 : Nat) : Int)] }
/-- how the turn of one sign ends -/
noncomputable def SubEnd (h₀ : Heap) (L : Addr) (m : Str → Option Value) (news : List (Addr × Obj)) (c : Nat) (s : Shared) (v : Value) (s' : Shared) : Prop :=
  ∃ t' h' tk', v = .str (mkS [92, c]) t' ∧ s' = { s with heap := h', toks := tk' } ∧ Fr h₀ L h' m ∧ News h₀ L h' news
theorem w_newMatch {x : List Nat} {t : Tok} {k : Nat} {seen : Sre.Seen} {Q : Value → Shared → Prop} (F : Fr h₀ L s.heap m) (N : News h₀ L s.heap news)
    (h : ∀ h' f T, (∀ p ∈ news, p.1 < T) → T < f → Fr h₀ L h' m → News h₀ L h' ((f, matchObj x t T) :: (T, spanObj k) :: news) → Q (.ref f) { s with heap := h' }) :
    wpAny (model prog w) A (reNewMatch (.ref 50) (.str (mkS x) t) 1 0 x.toArray.size (machF x.toArray k seen)) Q E s := by
  have e : reNewMatch (.ref 50) (.str (mkS x) t) 1 0 x.toArray.size (machF x.toArray k seen) = (do
    if (decide ((1 : Int) ≤ 1) && decide (k + 1 < k) || false) = true then reWrongSpan
    newFields "re.Match" [.str (mkS x) t, .ref 50, rawInt (0 : Nat), rawInt (x.toArray.size : Nat), rawInt 1, ← newTuple [rawInt (k : Nat), rawInt ((k + 1 : Nat) : Int), rawInt (k : Nat), rawInt ((k + 1 : Nat) : Int)]]) := rfl
  rw [e, if_neg (by simp)]
  refine wpAny_bind (wpAny_newTuple ?_)
  refine wpAny_newObj_type ?_
  have F1 := F.push (spanObj k)
  have N1 := N.push F (spanObj k)
  exact h _ _ _ (fun p hp => Heap.lt_size (N p hp).1) (Heap.lt_size (N1 _ (.head _)).1) (F1.push _) (N1.push F1 _)
theorem w_pushT {ps : List (List Nat × Tok)} {n : Nat} {b : List Nat} {t : Tok} {Q : Unit → Shared → Prop} (F : Fr h₀ L s.heap m) (N : News h₀ L s.heap ((P, lstT ps n) :: news)) (hn : ∀ p ∈ news, p.1 ≠ P) (hz : ps.length ≤ 10000000)
    (h : ∀ h' n', Fr h₀ L h' m → News h₀ L h' ((P, lstT (ps ++ [(b, t)]) n') :: news) → Q () { s with heap := h' }) :
    wpAny (model prog w) A (updateSeq P (·.push (.str (mkS b) t))) Q E s := by
  have z := N _ (.head _)
  have hsz : (tv ps).toArray.size ≤ 10000000 := by rw [List.size_toArray, tv_length]; lia
  have ee : (tv ps).toArray.push (.str (mkS b) t) = (tv (ps ++ [(b, t)])).toArray := by rw [tv_append]; simp [tv]
  refine wpAny_updateSeq z.1 rfl ?_ (by rw [sizeLine_eq]; lia) (by rw [sizeLine_eq, Array.size_push]; lia)
  have s1 := Heap.SameBut.update s.heap P (Obj.mapSeq (·.push (.str (mkS b) t)))
  have g1 := Heap.get?_update_self (h := s.heap) (a := P) (Obj.mapSeq (·.push (.str (mkS b) t))) z.1 (by rw [mapSeq_push]; rfl)
  refine h _ (n + 1) (F.change s1 z.2.1 z.2.2) ?_
  refine news_set (pre := []) N (fun _ h => nomatch h) hn s1 ?_
  rw [g1]
  show some (Obj.mapSeq _ (lstT ps n)) = some ({ cls := .type "list", data := .seq (tv (ps ++ [(b, t)])).toArray (n + 1) } : Obj)
  rw [← ee, mapSeq_push]
theorem sub_none {x : List Nat} {k : Nat} {t : Tok} {Q : Option Sre.M → Shared → Prop} (h : ∀ i, k ≤ i → i < x.length → isSpec (x.getD i 0) = false) (hq : Q none s) : wpAny (model prog w) A (reNextFound (tgt x t) k false) Q E s := by
  refine w_search_none (text := x.toArray) (fun i h1 h2 => ?_) hq
  have := h i h1 (by simpa using h2)
  simpa using this
theorem sub_some {x : List Nat} {k j : Nat} {t : Tok} {Q : Option Sre.M → Shared → Prop} (h0 : k ≤ j) (h1 : j < x.length) (h2 : isSpec (x.getD j 0) = true) (h : ∀ i, k ≤ i → i < j → isSpec (x.getD i 0) = false)
    (hq : ∀ seen, Q (some (machF x.toArray j seen)) s) : wpAny (model prog w) A (reNextFound (tgt x t) k false) Q E s := by
  refine w_search_some (text := x.toArray) h0 (by simpa using h1) (by simpa using h2) (fun i a b => ?_) hq
  have := h i a b
  simpa using this
theorem take_free {x : List Nat} {k j : Nat} (h0 : k ≤ j) (h1 : j ≤ x.length) (h : ∀ i, k ≤ i → i < j → isSpec (x.getD i 0) = false) : barL (x.take j) = barL (x.take k) ++ (x.take j).drop k := by
  have e : x.take j = x.take k ++ (x.take j).drop k := by
    have := List.take_append_drop k (x.take j)
    rw [List.take_take, Nat.min_eq_left h0] at this
    exact this.symm
  conv => lhs; rw [e]
  rw [barL_app]
  congr 1
  apply barL_free
  intro c hc
  obtain ⟨i, hi⟩ := List.getElem?_of_mem hc
  rw [List.getElem?_drop, List.getElem?_take] at hi
  split at hi
  · have := h (k + i) (by lia) (by lia)
    rw [List.getD_eq_getElem?_getD, hi] at this
    exact this
  · cases hi
theorem take_spec {x : List Nat} {j : Nat} (h1 : j < x.length) (h2 : isSpec (x.getD j 0) = true) : barL (x.take (j + 1)) = barL (x.take j) ++ [92, x.getD j 0] := by
  rw [List.take_succ, barL_app]
  congr 1
  rw [List.getD_eq_getElem?_getD, List.getElem?_eq_getElem h1] at *
  simp only [Option.getD_some, Option.toList_some] at *
  unfold barL
  simp [h2]
theorem barL_len (x : List Nat) : (barL x).length ≤ 2 * x.length := by
  induction x with
  | nil => exact Nat.le_refl _
  | cons c x ih =>
    have : barL (c :: x) = barL [c] ++ barL x := barL_app [c] x
    rw [this, List.length_append, List.length_cons]
    have : (barL [c]).length ≤ 2 := by
      unfold barL
      simp
      split <;> simp
    lia
theorem join_nil : ∀ l : List (List Nat), joinL [] l = l.flatten
  | [] => rfl
  | [x] => by simp [joinL]
  | x :: y :: r => by
    show x ++ [] ++ joinL [] (y :: r) = _
    rw [join_nil (y :: r)]
    simp
theorem plain_join : plainId "str.join" = true := by decide +kernel
/-- the loop of the replacing -/
theorem sub_loop {x : List Nat} {t : Tok} {R : Result → Shared → Prop} (hx : x.length ≤ 1000000) (hn : ∀ p ∈ news, p.1 ≠ P) (h50 : h₀.get? 50 = some rePat) (h49 : h₀.get? 49 = some reTup)
    (turn : ∀ j h tk f T ps c, j < x.length → isSpec (x.getD j 0) = true → (∀ p ∈ (P, lstT ps c) :: news, p.1 < T) → T < f → Fr h₀ L h m → News h₀ L h ((f, matchObj x t T) :: (T, spanObj j) :: (P, lstT ps c) :: news) →
      wpAny (model prog w) A.in1 (call (.ref q) [.ref f]) (SubEnd h₀ L m ((f, matchObj x t T) :: (T, spanObj j) :: (P, lstT ps c) :: news) (x.getD j 0) { s with heap := h, toks := tk }) (fun e s' => R (.error e) s') { s with heap := h, toks := tk })
    (hR : ∀ t' h' tk', Fr h₀ L h' m → News h₀ L h' news → R (.ok (.ret (.str (mkS (barL x)) t'))) { s with heap := h', toks := tk' }) :
    ∀ (r k : Nat) (n : Int) (h : Heap) (tk : Nat) (ps : List (List Nat × Tok)) (c : Nat), x.length - k < r → k ≤ x.length → (ps.map (·.1)).flatten = barL (x.take k) → ps.length ≤ 2 * k → Fr h₀ L h m → News h₀ L h ((P, lstT ps c) :: news) →
      codeAny (model prog w) A (.builtin "re.Pattern.sub.loop" ⟨[.ref 50, .str (mkS x) t, .ref q, rawInt 1, rawInt 0, rawInt n, rawInt (k : Nat), rawInt (k : Nat), .bool false, .ref P, .bool false], []⟩) R { s with heap := h, toks := tk } := by
  have e10 : ((1 : Int) == 0) = false := rfl
  have e11 : ((1 : Int) == 1) = true := rfl
  have e00 : ((0 : Int) != 0) = false := rfl
  have k00 : ((0 : Nat) == 0) = true := rfl
  intro r
  induction r with
  | zero =>
    intro k n h tk ps c hr hk hps hpl F N
    lia
  | succ r ih =>
    intro k n h tk ps c hr hk hps hpl F N
    refine codeAny_builtin entry_subLoop ?_
    rw [Around.under_plainId plain_subLoop _]
    unfold Builtin.«re.Pattern.sub.loop»
    refine wpAny_bind (w_target (F.keep _ _ h50) (F.keep _ _ h49) ?_)
    simp only [e10, e11, e00, k00, Bool.false_and, Bool.false_eq_true, if_false, if_true, Int.toNat_natCast]
    rcases first_spec x k with hno | ⟨j, hkj, hj, hs, hno⟩
    · refine wpAny_bind (sub_none hno ?_)
      have tail : ∀ (h : Heap) (tk : Nat) (ps : List (List Nat × Tok)) (c : Nat), (ps.map (·.1)).flatten = barL x → ps.length ≤ 3000000 → Fr h₀ L h m → News h₀ L h ((P, lstT ps c) :: news) →
          wpAny (model prog w) A.in1 (do
            let joiner ← reSlice (tgt x t).text (tgt x t).kind 0 0
            let it ← seqItems? (Value.ref P)
            if (it.getD #[]).isEmpty = true then do
              let text ← pure joiner
              ret text
            else do
              let text ← call (Value.builtin "str.join") [joiner, Value.ref P]
              ret text) (fun fin s' => match fin with
      | Fin.done f => R (Except.ok f) s'
      | Fin.again c' => c'.quiet = true ∧ codeAny (model prog w) A c' R s') (fun e s' => R (Except.error e) s') { s with heap := h, toks := tk } := by
        intro h tk ps c hps hpl F N
        refine wpAny_bind (w_slice (by lia) fun t1 k1 => ?_)
        refine wpAny_bind (wpAny_seqItems (N _ (.head _)).1 rfl ?_)
        have Nn : News h₀ L h news := fun p hp => N p (.tail _ hp)
        have hb := barL_len x
        cases ps with
        | nil =>
          refine wpAny_bind (wpAny_pure (wpAny_pure ?_))
          have e : barL x = [] := hps.symm
          have := hR t1 h k1 F Nn
          rw [e] at this
          exact this
        | cons p0 ps0 =>
          refine wpAny_bind (t_join (y := mkS ((x.take 0).drop 0)) (b := []) N (.head _) (by simp) ?_ fun t2 k2 => wpAny_pure ?_)
          · have : ∀ l : List (List Nat), (l.map List.length).sum = l.flatten.length := by
              intro l; rw [List.length_flatten]
            rw [this, hps]
            simp
            lia
          · have := hR t2 h k2 F Nn
            rw [← hps, ← join_nil] at this
            exact this
      dsimp only
      split
      · refine wpAny_bind (w_slice (by lia) fun t1 k1 => ?_)
        refine wpAny_bind (w_pushT F N hn (by lia) fun h' n' F' N' => ?_)
        refine tail h' k1 _ n' ?_ ?_ F' N'
        · rw [List.map_append, List.flatten_append, hps]
          have := take_free (x := x) (k := k) (j := x.length) hk (Nat.le_refl _) (fun i a b => hno i a b)
          rw [List.take_length] at this
          rw [this]
          simp
        · simp
          lia
      · rename_i hlt
        refine tail h tk ps c ?_ (by lia) F N
        have : k = x.length := by simp at hlt; lia
        rw [hps, this, List.take_length]
    · refine wpAny_bind (sub_some hkj hj hs hno ?_)
      intro seen
      have tail : ∀ (h : Heap) (tk : Nat) (ps : List (List Nat × Tok)) (c : Nat), (ps.map (·.1)).flatten = barL (x.take j) → ps.length ≤ 2 * j → Fr h₀ L h m → News h₀ L h ((P, lstT ps c) :: news) →
          wpAny (model prog w) A.in1 (do
            let found ← reNewMatch (Value.ref 50) (Value.str (mkS x) t) 1 0 x.toArray.size (machF x.toArray j seen)
            let item ← holding [found] (call (Value.ref q) [found])
            if (item != Value.none) = true then do
              updateSeq P fun x => x.push item
              again (Code.builtin "re.Pattern.sub.loop" { pos := [Value.ref 50, Value.str (mkS x) t, Value.ref q, rawInt 1, rawInt 0, rawInt (n + 1), rawInt ↑(machF x.toArray j seen).handed, rawInt ↑(machF x.toArray j seen).handed,
                      Value.bool ((machF x.toArray j seen).handed == (machF x.toArray j seen).start), Value.ref P, Value.bool false] })
            else
              again (Code.builtin "re.Pattern.sub.loop" { pos := [Value.ref 50, Value.str (mkS x) t, Value.ref q, rawInt 1, rawInt 0, rawInt (n + 1), rawInt ↑(machF x.toArray j seen).handed, rawInt ↑(machF x.toArray j seen).handed,
                      Value.bool ((machF x.toArray j seen).handed == (machF x.toArray j seen).start), Value.ref P, Value.bool false] }))
            (fun fin s' => match fin with
              | Fin.done f => R (Except.ok f) s'
              | Fin.again c' => c'.quiet = true ∧ codeAny (model prog w) A c' R s') (fun e s' => R (Except.error e) s') { s with heap := h, toks := tk } := by
        intro h tk ps c hps hpl F N
        refine wpAny_bind (w_newMatch F N fun h1 f T hT hf F1 N1 => ?_)
        refine wpAny_bind (wpAny_holding ?_)
        refine wpAny_mono (turn j h1 tk f T ps c hj hs hT hf F1 N1) (fun v s2 hv => ?_) fun _ _ x => x
        obtain ⟨t2, h2, tk2, rfl, rfl, F2, N2⟩ := hv
        rw [if_pos (by rfl)]
        have N3 : News h₀ L h2 ((P, lstT ps c) :: news) := fun p hp => N2 p (.tail _ (.tail _ hp))
        refine wpAny_bind (w_pushT F2 N3 hn (by lia) fun h3 n3 F3 N4 => ?_)
        have eb : ((machF x.toArray j seen).handed == (machF x.toArray j seen).start) = false := by
          show ((j + 1 : Nat) == j) = false
          simp
        rw [eb]
        refine wpAny_pure ⟨plainId_quiet plain_subLoop _, ?_⟩
        refine ih (j + 1) (n + 1) h3 tk2 _ n3 (by lia) (by lia) ?_ ?_ F3 N4
        · rw [List.map_append, List.flatten_append, hps, take_spec hj hs]
          simp
        · simp
          lia
      dsimp only
      split
      · rename_i hlt
        have hlt' : k < j := hlt
        refine wpAny_bind (w_slice (by lia) fun t1 k1 => ?_)
        refine wpAny_bind (w_pushT F N hn (by lia) fun h' n' F' N' => ?_)
        refine tail h' k1 _ n' ?_ ?_ F' N'
        · rw [List.map_append, List.flatten_append, hps, take_free hkj (by lia) hno]
          simp [machF]
        · simp
          lia
      · rename_i hlt
        have hlt' : ¬ k < j := hlt
        have e : k = j := by lia
        subst e
        exact tail h tk ps c hps hpl F N
end
end Mine
end -- IlS2
section -- IlS3
theorem Mine.none_IlS3 : True := by
  k_with_none
  trivial
open PySem PySem.W PyProof.Rows PySem.Calls PySem.Spec PySem.Builtin PySem.Builtin.Str PySem.Builtin.Re
set_option maxHeartbeats 4000000
namespace Mine
theorem slot_sub : Slot "re.Pattern" "sub" "re.Pattern.sub" :=
  .of (owner := "re.Pattern") (n := "sub") (by rw [typeLookup_type, builtinLookup_eq_fast]; kernel_rfl) (by decide +kernel) (by decide +kernel) (by decide +kernel)
    (by first | exact .inl (by decide +kernel) | exact .inr (by decide +kernel)) (by rw [isSubtype_type]; kernel_rfl)
theorem args_sub (a b c : Value) : argsOk "re.Pattern.sub" ⟨[a, b, c], []⟩ := by
  unfold argsOk; kernel_rfl
theorem fun_call : ∃ v, typeLookup (.type "function") "__call__" = pure (some v) := ⟨.builtin "function.__call__", by rw [typeLookup_type, builtinLookup_eq_fast]; kernel_rfl⟩
theorem slot_group : Slot "re.Match" "group" "re.Match.group" :=
  .of (owner := "re.Match") (n := "group") (by rw [typeLookup_type, builtinLookup_eq_fast]; kernel_rfl) (by decide +kernel) (by decide +kernel) (by decide +kernel)
    (by first | exact .inl (by decide +kernel) | exact .inr (by decide +kernel)) (by rw [isSubtype_type]; kernel_rfl)
theorem entry_group : entryFor table "re.Match.group" = some Builtin.«re.Match.group» := entryFor_of_tree (by kernel_rfl)
theorem args_group (a b : Value) : argsOk "re.Match.group" ⟨[a, b], []⟩ := by
  unfold argsOk; kernel_rfl
section
variable {prog : Program} {w : World} {A : Around} {E : Value → Shared → Prop} {s : Shared} {h₀ : Heap} {L P q : Addr} {m : Str → Option Value} {news : List (Addr × Obj)}
/-- a slot's call whose code goes on -/
theorem slot_tree {T : String} {name : Str} {id : String} {b : Builtin} {self : Value} {rest : List Value} {Q : Value → Shared → Prop} (h : Slot T name id) (hT : s.TypeIs self T) (hb : entryFor table id = some b)
    (hc : wpAny (model prog w) A.in1 (b ⟨self :: rest, []⟩) (fun fin s' => match fin with
      | .done f => (match (Except.ok f : Result) with | .ok (.ret v) => Q v s' | .ok _ => False | .error e => E e s')
      | .again c' => c'.quiet = true ∧ codeAny (model prog w) A c' (fun r s' => match r with | .ok (.ret v) => Q v s' | .ok _ => False | .error e => E e s') s') E s)
    (ha : argsOk id ⟨self :: rest, []⟩) : wpAny (model prog w) A (call (.builtin id) (self :: rest)) Q E s :=
  wpAny_call (codeAny_call_builtin h.plain hb (h.check _ _ _ _ _ _ _ _ hT ha hc))
theorem w_sub {x : List Nat} {t : Tok} {o : Obj} {Q : Value → Shared → Prop} (F : Fr h₀ L s.heap m) (N : News h₀ L s.heap news) (hx : x.length ≤ 1000000) (h50 : h₀.get? 50 = some rePat) (h49 : h₀.get? 49 = some reTup)
    (hq : s.heap.get? q = some o) (ho : o.cls = .type "function")
    (turn : ∀ j h tk f T P ps c, j < x.length → isSpec (x.getD j 0) = true → (∀ p ∈ news, p.1 < P) → (∀ p ∈ (P, lstT ps c) :: news, p.1 < T) → T < f → Fr h₀ L h m → News h₀ L h ((f, matchObj x t T) :: (T, spanObj j) :: (P, lstT ps c) :: news) →
      wpAny (model prog w) A.in1 (call (.ref q) [.ref f]) (SubEnd h₀ L m ((f, matchObj x t T) :: (T, spanObj j) :: (P, lstT ps c) :: news) (x.getD j 0) { s with heap := h, toks := tk }) E { s with heap := h, toks := tk })
    (hQ : ∀ t' h' tk', Fr h₀ L h' m → News h₀ L h' news → Q (.str (mkS (barL x)) t') { s with heap := h', toks := tk' }) :
    wpAny (model prog w) A (call (.builtin "re.Pattern.sub") [.ref 50, .ref q, .str (mkS x) t]) Q E s := by
  obtain ⟨cv, hcv⟩ := fun_call
  have g50 := F.keep _ _ h50
  refine slot_tree slot_sub ⟨_, g50, rfl⟩ entry_sub ?_ (args_sub _ _ _)
  unfold Builtin.«re.Pattern.sub» reSubstitute
  dsimp only
  refine wpAny_bind (wpAny_of_eq (show reNamed "re.Pattern.sub" "sub" ["repl", "string", "count"] 2 [.ref q, .str (mkS x) t] [] = pure [some (.ref q), some (.str (mkS x) t), none] from rfl) ?_)
  dsimp only
  refine wpAny_bind (wpAny_pure ?_)
  refine wpAny_bind (wpAny_specialOf ⟨_, hq, ho⟩ hcv ?_)
  simp only [Option.isSome_some, if_true]
  refine wpAny_bind (wpAny_pure ?_)
  refine wpAny_bind (wpAny_pure ?_)
  refine wpAny_bind (wpAny_holding (w_target g50 (F.keep _ _ h49) ?_))
  dsimp only
  rw [if_pos (show ((1 : Int) == 1) = true from rfl)]
  refine wpAny_bind ?_
  unfold reNotHeld
  refine wpAny_bind (wpAny_isInstance_val (T := "str") (b := false) rfl (by rw [isSubtype_type]; kernel_rfl) ?_)
  refine wpAny_pure ?_
  refine wpAny_bind (wpAny_newList ?_ (Nat.zero_le _))
  have F1 := F.push (lstT [] 0)
  have N1 := N.push F (lstT [] 0)
  have hlt : ∀ p ∈ news, p.1 < s.heap.objs.size := fun p hp => Heap.lt_size (N p hp).1
  refine wpAny_pure ⟨plainId_quiet plain_subLoop _, ?_⟩
  exact sub_loop (P := s.heap.objs.size) (R := fun r s' => match r with
              | Except.ok (Flow.ret v) => Q v s'
              | Except.ok a => False
              | Except.error e => E e s') hx (fun p hp => Nat.ne_of_lt (hlt p hp)) h50 h49
    (fun j h tk f T ps c a b d e F2 N2 => turn j h tk f T s.heap.objs.size ps c a b hlt d e F2 N2)
    (fun t' h' tk' F2 N2 => hQ t' h' tk' F2 N2) (x.length + 1) 0 0 _ _ [] 0 (by lia) (Nat.zero_le _) rfl (by simp) F1 N1
theorem w_group {x : List Nat} {t u : Tok} {j : Nat} {f T : Addr} {Q : Value → Shared → Prop} (N : News h₀ L s.heap news) (hf : (f, matchObj x t T) ∈ news) (hT : (T, spanObj j) ∈ news) (hj : j < x.length) (hx : x.length ≤ 1000000)
    (h : ∀ t' k, Q (.str (mkS [x.getD j 0]) t') { s with toks := k }) :
    wpAny (model prog w) A (call (.builtin "re.Match.group") [.ref f, .int 1 u]) Q E s := by
  refine wpAny_call_entry slot_group ⟨_, N.get hf, rfl⟩ entry_group ?_ (args_group _ _)
  unfold Builtin.«re.Match.group»
  refine wpAny_bind (wpAny_pure ?_)
  dsimp only
  refine wpAny_bind ?_
  unfold reFound
  refine wpAny_bind (wpAny_fieldsOf (N.get hf) rfl ?_)
  refine wpAny_bind ?_
  show wpAny (model prog w) A.in1 (reRawItems (.ref T)) _ E s
  unfold reRawItems
  refine wpAny_bind (wpAny_seqItems (N.get hT) rfl ?_)
  refine wpAny_pure (wpAny_pure ?_)
  have es : Array.map reRawOf ((some #[rawInt (j : Nat), rawInt ((j + 1 : Nat) : Int), rawInt (j : Nat), rawInt ((j + 1 : Nat) : Int)]).getD #[]) = #[(j : Int), ((j + 1 : Nat) : Int), (j : Int), ((j + 1 : Nat) : Int)] := by simp [reRawOf, rawInt]
  rw [es]
  refine wpAny_bind ?_
  unfold reGroupNumber
  refine wpAny_bind (wpAny_bind (wpAny_pure ?_))
  refine wpAny_pure ?_
  refine wpAny_pure ?_
  refine wpAny_bind ?_
  unfold reGroupText
  dsimp only
  show wpAny (model prog w) A.in1 (if (decide ((j : Int) < 0) || decide (((j + 1 : Nat) : Int) < 0)) = true then pure Value.none else do
    let y ← reTextOf (.str (mkS x) t)
    reSlice y.1 y.2 (j : Int).toNat ((j + 1 : Nat) : Int).toNat) _ E s
  rw [if_neg (by simp; lia)]
  refine wpAny_bind (wpAny_pure ?_)
  rw [Int.toNat_natCast, Int.toNat_natCast]
  refine w_slice (x := x) (by lia) fun t' k => ?_
  have e : (x.take (j + 1)).drop j = [x.getD j 0] := by
    rw [List.take_add_one, List.getElem?_eq_getElem hj, List.drop_append_of_le_length (by rw [List.length_take]; lia), List.drop_eq_nil_of_le (by rw [List.length_take]; lia), List.getD_eq_getElem?_getD, List.getElem?_eq_getElem hj]
    rfl
  rw [e]
  exact wpAny_pure ⟨_, rfl, h t' k⟩
end
end Mine
end -- IlS3
section -- IlS4
theorem Mine.none_IlS4 : True := by
  k_with_none
  trivial
open PySem PySem.W PyProof.Rows PySem.Calls PySem.Spec PySem.Builtin PySem.Builtin.Str PySem.Builtin.Re
set_option maxHeartbeats 4000000
namespace Mine
noncomputable def escB (c : Nat) : Bool := [40, 41, 91, 93, 123, 125, 63, 42, 43, 45, 124, 94, 36, 92, 46, 38, 126, 35, 32, 9, 10, 13, 11, 12].contains c
noncomputable def escS (c : Nat) : List Nat := if escB c then [92, c] else [c]
theorem fr_keeps {h₀ h h' : Heap} {L : Addr} {m : Str → Option Value} (F : Fr h₀ L h m) (hk : ∀ b o, h.get? b = some o → h'.get? b = some o) : Fr h₀ L h' m := by
  obtain ⟨oL, a1, a2, hoL, a3⟩ := F.ns
  exact ⟨⟨oL, a1, a2, hk _ _ hoL, a3⟩, fun b x e => hk b x (F.keep b x e), F.above⟩
theorem news_keeps {h₀ h h' : Heap} {L : Addr} {news : List (Addr × Obj)} (N : News h₀ L h news) (hk : ∀ b o, h.get? b = some o → h'.get? b = some o) : News h₀ L h' news :=
  fun p hp => ⟨hk _ _ (N p hp).1, (N p hp).2⟩
noncomputable abbrev escEs : List DictEntry := [⟨40, .int 40 351, .str (PySem.Str.ofString "\\(") 355⟩, ⟨41, .int 41 357, .str (PySem.Str.ofString "\\)") 361⟩, ⟨91, .int 91 363, .str (PySem.Str.ofString "\\[") 367⟩, ⟨93, .int 93 369, .str (PySem.Str.ofString "\\]") 373⟩, ⟨123, .int 123 375, .str (PySem.Str.ofString "\\{") 379⟩, ⟨125, .int 125 381, .str (PySem.Str.ofString "\\}") 385⟩, ⟨63, .int 63 387, .str (PySem.Str.ofString "\\?") 391⟩, ⟨42, .int 42 393, .str (PySem.Str.ofString "\\*") 397⟩, ⟨43, .int 43 399, .str (PySem.Str.ofString "\\+") 403⟩, ⟨45, .int 45 405, .str (PySem.Str.ofString "\\-") 409⟩, ⟨124, .int 124 411, .str (PySem.Str.ofString "\\|") 415⟩, ⟨94, .int 94 417, .str (PySem.Str.ofString "\\^") 421⟩, ⟨36, .int 36 423, .str (PySem.Str.ofString "\\$") 427⟩, ⟨92, .int 92 429, .str (PySem.Str.ofString "\\\\") 433⟩, ⟨46, .int 46 435, .str (PySem.Str.ofString "\\.") 439⟩, ⟨38, .int 38 441, .str (PySem.Str.ofString "\\&") 445⟩, ⟨126, .int 126 447, .str (PySem.Str.ofString "\\~") 451⟩, ⟨35, .int 35 453, .str (PySem.Str.ofString "\\#") 457⟩, ⟨32, .int 32 459, .str (PySem.Str.ofString "\\ ") 463⟩, ⟨9, .int 9 465, .str (PySem.Str.ofString "\\\t") 469⟩, ⟨10, .int 10 471, .str (PySem.Str.ofString "\\\n") 475⟩, ⟨13, .int 13 477, .str (PySem.Str.ofString "\\\r") 481⟩, ⟨11, .int 11 483, .str (PySem.Str.ofString "\\\x0b") 487⟩, ⟨12, .int 12 489, .str (PySem.Str.ofString "\\\x0c") 493⟩]
noncomputable abbrev escObj : Obj := ⟨.type "dict", none, .dict escEs.toArray 24, #[]⟩
theorem esc_chk : escEs.all (fun e => match e.key with | .int k _ => e.hash == hashInt k && (decide (0 ≤ k) && escB k.toNat) | _ => false) = true := by kernel_rfl
theorem esc_key : ∀ e ∈ escEs, ∃ k t, e.key = .int k t ∧ e.hash = hashInt k ∧ 0 ≤ k ∧ escB k.toNat = true := by
  intro e he
  have := List.all_eq_true.mp esc_chk e he
  split at this
  · rename_i k t ek
    simp only [Bool.and_eq_true, beq_iff_eq, decide_eq_true_eq] at this
    exact ⟨k, t, ek, this.1, this.2.1, this.2.2⟩
  · cases this
theorem esc_miss {c : Nat} (h : escB c = false) : findBy Value.isInt escEs.toArray (c : Int) = none := by
  unfold findBy
  rw [Option.map_eq_none_iff, ← Array.find?_toList, List.find?_eq_none]
  intro e he q
  obtain ⟨k, t, ek, _, h0, hk⟩ := esc_key e (by simpa using he)
  rw [ek] at q
  have : (c : Int) = k := by
    have q' : Value.isInt (c : Int) (.int k t) = true := q
    unfold Value.isInt at q'
    first
      | exact (eq_of_beq q')
      | exact (eq_of_beq q').symm
      | exact of_decide_eq_true q'
      | exact (of_decide_eq_true q').symm
  rw [← this, Int.toNat_natCast, h] at hk
  cases hk
theorem esc_chk2 : [40, 41, 91, 93, 123, 125, 63, 42, 43, 45, 124, 94, 36, 92, 46, 38, 126, 35, 32, 9, 10, 13, 11, 12].all (fun c => match findBy Value.isInt escEs.toArray ((c : Nat) : Int) with | some (.str x _) => x.cps.toList == [92, c] | _ => false) = true := by kernel_rfl
theorem esc_hit {c : Nat} (h : escB c = true) : ∃ t, findBy Value.isInt escEs.toArray (c : Int) = some (.str (mkS [92, c]) t) := by
  have := List.all_eq_true.mp esc_chk2 c (by simpa [escB] using h)
  split at this
  · rename_i x t ek
    rw [ek]
    refine ⟨t, ?_⟩
    have e2 : x.cps.toList = [92, c] := by simpa using this
    obtain ⟨a⟩ := x
    unfold mkS
    congr 3
    rw [← e2]
  · cases this
theorem esc_low {c : Nat} (h : escB c = true) : c < 128 := by
  have key : ∀ d ∈ ([40, 41, 91, 93, 123, 125, 63, 42, 43, 45, 124, 94, 36, 92, 46, 38, 126, 35, 32, 9, 10, 13, 11, 12] : List Nat), d < 128 := by decide
  unfold escB at h
  exact key c (List.contains_iff_mem.mp h)
section
variable {prog : Program} {w : World} {A : Around} {E : Value → Shared → Prop} {s : Shared} {h₀ : Heap} {L : Addr} {m : Str → Option Value} {news : List (Addr × Obj)}
theorem esc_map {h : Heap} (h1 : h.get? 59 = some escObj) : h.IntMap 59 (findBy Value.isInt escEs.toArray) := ⟨_, _, _, h1, rfl, rfl, fun e he => (let ⟨k, t, a, b, _⟩ := esc_key e (by simpa using he); ⟨k, t, a, b⟩), fun k => rfl⟩
theorem esc_mapOf {h : Heap} (h1 : h.get? 59 = some escObj) : h.MapOf (intKind prog w) 59 (findBy Value.isInt escEs.toArray) :=
  ⟨_, _, _, h1, by trivial, rfl, fun e he => (let ⟨k, t, a, b, _⟩ := esc_key e (by simpa using he); ⟨k, by rw [a]; simp [intKind, Value.isInt], b⟩), fun k => rfl⟩
theorem look_hit {c : Nat} {Q : Mapped → Shared → Prop} (h1 : s.heap.get? 59 = some escObj) (hc : escB c = true) (h : ∀ k, Q (.text (mkS [92, c])) { s with toks := k }) : wpAny (model prog w) A (tableLookup (.ref 59) c) Q E s := by
  obtain ⟨t, e⟩ := esc_hit hc
  unfold tableLookup
  refine wpAny_bind (wpAny_attempt (wpAny_bind (wpAny_mkInt (wpAny_getItem_intMap (esc_map h1) e ?_))))
  dsimp only
  refine wpAny_bind (wpAny_pure ?_)
  refine wpAny_bind (wpAny_pure ?_)
  exact wpAny_pure (h _)
theorem look_miss {c : Nat} {Q : Mapped → Shared → Prop} (hh : A.handled = none) (F : Fr h₀ L s.heap m) (N : News h₀ L s.heap news) (h1 : h₀.get? 59 = some escObj) (hc : escB c = false)
    (h : ∀ h' k, Fr h₀ L h' m → News h₀ L h' news → Q .keep { s with heap := h', toks := k }) : wpAny (model prog w) A (tableLookup (.ref 59) c) Q E s := by
  unfold tableLookup
  refine wpAny_bind (wpAny_attempt (wpAny_bind (wpAny_mkInt (wpAny_getItem_missing_of (knd := intKind prog w) (k := (c : Int)) (by simp [intKind, Value.isInt]) (by decide) hh (esc_mapOf (F.keep _ _ h1)) (esc_miss hc) fun h' e hx => ?_))))
  dsimp only
  obtain ⟨ob, t, he, hcls, _⟩ := hx.there
  refine wpAny_bind (wpAny_isInstance (T := "KeyError") (b := true) ⟨ob, he, hcls⟩ (by rw [isSubtype_type]; kernel_rfl) ?_)
  rw [if_pos rfl]
  refine wpAny_bind (wpAny_rule ?_)
  exact wpAny_pure (h h' _ (fr_keeps F hx.keeps) (news_keeps N hx.keeps))
theorem slot_translate' : Slot "str" "translate" "str.translate" := PySem.F.slot_str_translate
theorem t_translate {c : Nat} {t : Tok} {Q : Value → Shared → Prop} (hh : A.handled = none) (F : Fr h₀ L s.heap m) (N : News h₀ L s.heap news) (h1 : h₀.get? 59 = some escObj)
    (h : ∀ t' h' k, Fr h₀ L h' m → News h₀ L h' news → Q (.str (mkS (escS c)) t') { s with heap := h', toks := k }) :
    wpAny (model prog w) A (call (.builtin "str.translate") [.str (mkS [c]) t, .ref 59]) Q E s := by
  refine wpAny_call_entry PySem.F.slot_str_translate rfl PySem.F.entry_str_translate ?_ (PySem.F.args_str_translate_2 _ _)
  unfold Builtin.«str.translate»
  refine wpAny_bind (wpAny_of_eq (show strOneArg "translate" ⟨[.str (mkS [c]) t, .ref 59], []⟩ = pure (.str (mkS [c]) t, mkS [c], .ref 59) from rfl) ?_)
  dsimp only
  rw [if_neg (show ¬ ((mkS [c]).length == 0) = true by rw [mkS_len]; simp)]
  refine wpAny_bind ?_
  simp only [mkS, List.forIn_toArray, List.forIn_cons, List.forIn_nil]
  refine wpAny_bind ?_
  rw [if_neg (show ¬ tooLong 0 = true by decide)]
  by_cases hc : c < 128
  · rw [if_pos (by simp [hc])]
    simp only [List.lookup]
    cases he : escB c
    · refine wpAny_bind (look_miss (A := A.in1) hh F N h1 he fun h' k F' N' => ?_)
      dsimp only
      refine wpAny_bind (wpAny_pure ?_)
      dsimp only
      refine wpAny_pure (wpAny_pure ?_)
      dsimp only
      rw [if_neg (show ¬ tooLong (0 + 1) = true by decide)]
      have := h
      unfold escS at this
      rw [he] at this
      refine wpAny_bind (wpAny_mkStr (wpAny_pure ⟨_, rfl, this _ h' _ F' N'⟩) ?_)
      show (1 : Nat) ≤ sizeLine
      decide
    · refine wpAny_bind (look_hit (A := A.in1) (F.keep _ _ h1) he fun k => ?_)
      dsimp only
      rw [if_neg (by rw [mkS_len]; simp)]
      dsimp only
      refine wpAny_bind (wpAny_pure ?_)
      dsimp only
      refine wpAny_bind (wpAny_rule ?_)
      rw [if_neg Bool.false_ne_true]
      refine wpAny_bind (look_hit (A := A.in1) (F.keep _ _ h1) he fun k2 => ?_)
      dsimp only
      refine wpAny_pure (wpAny_pure ?_)
      dsimp only
      rw [if_neg (show ¬ tooLong (0 + (mkS [92, c]).length) = true by rw [mkS_len]; simp [tooLong]; decide)]
      have := h
      unfold escS at this
      rw [he] at this
      refine wpAny_bind (wpAny_mkStr ?_ ?_)
      · have e : (⟨List.foldl (fun acc (p : Str) => acc ++ p.cps) #[] [mkS [92, c]].reverse⟩ : Str) = mkS [92, c] := by simp [mkS]
        rw [e]
        exact wpAny_pure ⟨_, rfl, this _ _ _ F N⟩
      · show (2 : Nat) ≤ sizeLine
        decide
  · rw [if_neg (by simp [hc])]
    have he : escB c = false := by
      cases e : escB c
      · rfl
      · exact absurd (esc_low e) hc
    refine wpAny_bind (look_miss (A := A.in1) hh F N h1 he fun h' k F' N' => ?_)
    dsimp only
    refine wpAny_pure (wpAny_pure ?_)
    dsimp only
    rw [if_neg (show ¬ tooLong (0 + 1) = true by decide)]
    have := h
    unfold escS at this
    rw [he] at this
    refine wpAny_bind (wpAny_mkStr (wpAny_pure ⟨_, rfl, this _ h' _ F' N'⟩) ?_)
    show (1 : Nat) ≤ sizeLine
    decide
theorem gm_translate {M : Model} {x : Str} {t : Tok} {pl : Sem Bool} {Q : Value × List Value → Shared → Prop} (h : Q (.builtin "str.translate", [.str x t]) s) : wpAny M A (getMethod (.str x t) "translate" pl) Q E s := by
  with_reducible exact GM.of (.str x t) (typeIs_str _ _ _) PySem.F.slot_str_translate PySem.F.type_str_translate GM.noRef h
theorem plainPat : PlainAttrs "re.Pattern" :=
  ⟨⟨"object.__getattribute__", by rw [typeLookup_type, builtinLookup_eq_fast]; kernel_rfl, by decide +kernel⟩, by rw [typeLookup_type, builtinLookup_eq_fast]; kernel_rfl⟩
theorem plainMatch : PlainAttrs "re.Match" :=
  ⟨⟨"object.__getattribute__", by rw [typeLookup_type, builtinLookup_eq_fast]; kernel_rfl, by decide +kernel⟩, by rw [typeLookup_type, builtinLookup_eq_fast]; kernel_rfl⟩
theorem type_sub : typeOf (.builtin "re.Pattern.sub") = pure (.type "method_descriptor") := by show builtinType _ = _; rw [builtinType_eq_fast]; kernel_rfl
theorem type_group : typeOf (.builtin "re.Match.group") = pure (.type "method_descriptor") := by show builtinType _ = _; rw [builtinType_eq_fast]; kernel_rfl
theorem gm_sub {M : Model} {pl : Sem Bool} {Q : Value × List Value → Shared → Prop} (h1 : s.heap.get? 50 = some rePat) (h : Q (.builtin "re.Pattern.sub", [.ref 50]) s) : wpAny M A (getMethod (.ref 50) "sub" pl) Q E s :=
  getMethod_builtin ⟨_, h1, rfl⟩ plainPat slot_sub type_sub (fun a e => by cases e; exact ⟨_, h1, rfl⟩) h
theorem gm_group {M : Model} {f T : Addr} {x : List Nat} {t : Tok} {pl : Sem Bool} {Q : Value × List Value → Shared → Prop} (N : News h₀ L s.heap news) (hf : (f, matchObj x t T) ∈ news) (h : Q (.builtin "re.Match.group", [.ref f]) s) : wpAny M A (getMethod (.ref f) "group" pl) Q E s :=
  getMethod_builtin ⟨_, N.get hf, rfl⟩ plainMatch slot_group type_group (fun a e => by cases e; exact ⟨_, N.get hf, rfl⟩) h
end
end Mine
end -- IlS4
section -- IlE1
open PySem PySem.W PyProof.Rows PySem.Calls PySem.Spec
namespace Mine
theorem lines_IlE1L_1 : True := by
  k_with_none
  k_with "mine sub" => (first | exact fun _ h => h | exact fun _ h => .tail _ h | exact fun _ h => .tail _ (.tail _ h) | exact fun _ h => .tail _ (.tail _ (.tail _ h)) | exact fun _ h => .tail _ (.tail _ (.tail _ (.tail _ h))) | exact fun _ h => .tail _ (.tail _ (.tail _ (.tail _ (.tail _ h)))))
  k_with "mine eq" => (first | rfl | (subst_vars; rfl))
  k_with "mine end" => ((refine' ret_of (by assumption) _ ?q9e1 ?q9e2 ?q9e3 ?q9e4; (case q9e2 => k_asm); (case q9e3 => k_asm); (case q9e4 => walk_at "mine sub"); (case q9e1 => walk_at "mine eq"); (all_goals exact (0 : Nat))))
  k_with "mine endS" => ((refine' ret_of (by assumption) _ (veq ?_) ?q9e2 ?q9e3 ?q9e4; (case q9e2 => k_asm); (case q9e3 => k_asm); (case q9e4 => walk_at "mine sub")))
  k_with "mine lt" => (first | assumption | exact ktn_ltOf (by assumption))
  k_with "mine endT3" => ((refine' ret_ofT (by assumption) ?q9F ?q9N ?q9l ?q9s [(_, _), (_, _), (_, _)] ?q9o ?_; (case q9F => k_asm); (case q9N => k_asm); (case q9l => walk_at "mine lt"); (case q9s => walk_at "mine sub"); (case q9o => ((try simp only [w_nil, w_slash]); rfl))))
  k_with "mine endTT" => ((refine' ret_ofT (by assumption) ?q9F ?q9N ?q9l ?q9s _ ?q9o ?q9e; (case q9F => k_asm); (case q9N => k_asm); (case q9l => walk_at "mine lt"); (case q9s => walk_at "mine sub"); (case q9o => exact rfl); (case q9e => assumption)))
  k_with "mine endT2" => ((refine' ret_ofT (by assumption) ?q9F ?q9N ?q9l ?q9s [(_, _), (_, _)] ?q9o ?_; (case q9F => k_asm); (case q9N => k_asm); (case q9l => walk_at "mine lt"); (case q9s => walk_at "mine sub"); (case q9o => ((try simp only [w_nil, w_slash]); rfl))))
  k_with "mine enterT" => ((unfold CtT; intro dp un gd cn cs a ccd cl outer A₀ base h₀ L m news s Q E B F X N T hk hd hu hret; refine wpAny_call ?_; k_dflt cell_enter))
  k_with "mine enterR" => ((unfold Ct; intro dp un gd cn cs a ccd cl outer A₀ base h₀ L m news s Q E B F X N T hk hd hu hret; refine wpAny_call ?_; k_dflt (refine' kp_rest ?q9k1 ?q9k2 ?q9k3 ?q9k4 ?q9k5 ?q9kA ?q9kF ?q9kK ?q9k6 ?q9k7 ?q9k8 ?q9kV ?q9kP ?q9kG ?q9kB ?_ ?q9c2 ?q9c3 ?q9c4 ?q9c5; (case q9kA => exact rfl); (case q9kF => exact rfl); (case q9kK => assumption); (case q9k1 => k_asm); (case q9k2 => k_asm); (case q9k3 => k_asm); (case q9k4 => k_asm); (case q9k5 => k_asm); (case q9k6 => k_is); (case q9k7 => k_is); (case q9k8 => ktr_room); (case q9kV => kl_lit); (case q9kP => exact rfl); (case q9kG => exact fun _ => rfl); (case q9kB => exact fun _ => locs rfl); (case q9c5 => decide); (case q9c2 => exact rfl); (case q9c3 => exact rfl); (case q9c4 => exact rfl); k_whole); intro D' g' L' h' l1 FG' F' N' B' X' T'; (try k_lt l1); (try dsimp only); (try k_lift B'); (try k_fold)))
  k_with "mine enter" => ((unfold Ct; intro dp un gd cn cs a ccd cl outer A₀ base h₀ L m news s Q E B F X N T hk hd hu hret; refine wpAny_call ?_; k_dflt cell_enter))
  k_with "mine use" => (((case q9k1 => k_asm); (case q9k2 => k_asm); (case q9k3 => k_asm); (case q9k4 => k_asm); (case q9k5 => k_asm); (case q9kK => first | exact rfl | assumption); (case q9kd => ktr_room); (case q9ku => ktr_units); intro t9 h9 tk9 F9 N9; (try dsimp only); (try k_fold); (try k_sweep)))
  k_with "mine useT" => (((case q9k1 => k_asm); (case q9k2 => k_asm); (case q9k3 => k_asm); (case q9k4 => k_asm); (case q9k5 => k_asm); (case q9kK => first | exact rfl | assumption); (case q9kd => ktr_room); (case q9ku => ktr_units); intro D9 ps9 h9 tk9 e9 F9 N9 l9; (try k_lt l9); (try dsimp only); (try k_fold); (try k_sweep)))
  k_with "mine word" => (first | with_reducible exact w_slash | with_reducible exact w_dot | with_reducible exact w_dotdot | with_reducible exact w_nil | with_reducible rfl)
  k_with "mine len" => (first | assumption | lia | (simp only [List.length_take, List.length_drop, List.length_append, List.length_replicate, List.length_cons, List.length_nil]; lia))
  k_with "call builtin:issubclass" => ((k_here; k_dflt (refine' k_issub ?q9k1 ?q9k2 ?_; (case q9k1 => k_asm); (case q9k2 => k_mem); k_whole)))
  k_with "call builtin:str.rfind" => ((k_here; k_dflt (refine' t_rfind ?q9y ?_; (case q9y => walk_at "mine word"); k_whole); intro r' hr' h1' h2'))
  k_with "subscriptTail Name Slice str ref" => ((k_here; (with_reducible show wpAny _ _ (subscriptTail _ (Expr.Slice (some _) none none _) (Value.str (mkS _) _) _) _ _ _); k_dflt (refine' t_slice_from (s := ⟨_, _, _, _, _⟩) ?q9F ?q9N ?q9x ?q9i ?_ ?q9hs ?q9ht; (case q9F => k_asm); (case q9N => k_asm); (case q9x => walk_at "mine len"); (case q9i => walk_at "mine len"); (case q9hs => with_unfolding_all rfl); (case q9ht => intro _; with_unfolding_all rfl); k_whole); intro h' t' k' F' N'; (try k_sweep)))
  k_with "subscriptTail Name Slice str ref" => ((k_here; (with_reducible show wpAny _ _ (subscriptTail _ (Expr.Slice none (some _) none _) (Value.str (mkS _) _) _) _ _ _); k_dflt (refine' t_slice_to (s := ⟨_, _, _, _, _⟩) ?q9F ?q9N ?q9x ?q9i ?_ ?q9hs ?q9ht; (case q9F => k_asm); (case q9N => k_asm); (case q9x => walk_at "mine len"); (case q9i => walk_at "mine len"); (case q9hs => with_unfolding_all rfl); (case q9ht => intro _; with_unfolding_all rfl); k_whole); intro h' t' k' F' N'; (try k_sweep)))
  k_with "subscriptTail Name Slice str ref" => ((k_here; (with_reducible show wpAny _ _ (subscriptTail _ (Expr.Slice (some _) (some _) none _) (Value.str (mkS _) _) _) _ _ _); k_dflt (refine' t_slice_mid (s := ⟨_, _, _, _, _⟩) ?q9F ?q9N ?q9x ?q9i ?q9j ?_ ?q9hs ?q9ht; (case q9F => k_asm); (case q9N => k_asm); (case q9x => walk_at "mine len"); (case q9i => walk_at "mine len"); (case q9j => walk_at "mine len"); (case q9hs => with_unfolding_all rfl); (case q9ht => intro _; with_unfolding_all rfl); k_whole); intro h' t' k' F' N'; (try k_sweep)))
  k_with "truthy str" => ((k_here; (with_reducible show wpAny _ _ (PySem.truthy (Value.str (mkS _) _)) _ _ _); k_dflt (refine' t_truthy ?q9x ?_; (case q9x => walk_at "mine len"); k_whole); intro k'))
  k_with "call builtin:len" => ((k_here; (with_reducible show wpAny _ _ (call (Value.builtin "len") [Value.str (mkS _) _]) _ _ _); k_dflt (refine' t_len ?q9x ?_; (case q9x => walk_at "mine len"); k_whole); intro k'))
  k_with "compareOp NotEq str str" => ((k_here; (with_reducible show wpAny _ _ (compareOp CmpOp.NotEq (Value.str (mkS _) _) _) _ _ _); k_dflt (refine' t_ne ?q9y ?_; (case q9y => walk_at "mine word"); k_whole)))
  k_with "compareOp Eq str str" => ((k_here; (with_reducible show wpAny _ _ (compareOp CmpOp.Eq (Value.str (mkS _) _) _) _ _ _); k_dflt (refine' t_eq ?q9y ?_; (case q9y => walk_at "mine word"); k_whole)))
  k_with "binaryOp Add str str" => ((k_here; k_dflt (refine' t_add ?q9x ?q9y ?q9l ?_; (case q9x => walk_at "mine word"); (case q9y => walk_at "mine word"); (case q9l => walk_at "mine len"); k_whole); intro t' k'))
  k_with "binaryOp Mult str int" => ((k_here; k_dflt (refine' t_mul ?q9y ?q9a ?q9b ?_; (case q9y => walk_at "mine word"); (case q9a => walk_at "mine len"); (case q9b => walk_at "mine len"); k_whole); intro t' k'))
  k_with "call builtin:str.rstrip" => ((k_here; k_dflt (refine' t_rstrip ?q9y ?q9x ?_; (case q9y => walk_at "mine word"); (case q9x => walk_at "mine len"); k_whole); intro t' k'))
  k_with "call builtin:str.lstrip" => ((k_here; k_dflt (refine' t_lstrip ?q9y ?q9x ?_; (case q9y => walk_at "mine word"); (case q9x => walk_at "mine len"); k_whole); intro t' k'))
  k_with "call builtin:str.startswith" => ((k_here; k_dflt (refine' t_starts ?q9y ?_; (case q9y => walk_at "mine word"); k_whole)))
  k_with "call builtin:str.endswith" => ((k_here; k_dflt (refine' t_ends ?q9y ?_; (case q9y => walk_at "mine word"); k_whole)))
  k_with "call builtin:str.split" => ((k_here; k_dflt (refine' t_split ?q9F ?q9N ?q9y ?q9x ?_; (case q9F => k_asm); (case q9N => k_asm); (case q9y => walk_at "mine word"); (case q9x => walk_at "mine len"); k_whole); intro ps' h' k' e' F' N'; (try k_sweep)))
  k_with "call builtin:str.join" => ((k_here; k_dflt (refine' t_join ?q9N ?q9m ?q9y ?q9l ?_; (case q9N => k_asm); (case q9m => k_mem); (case q9y => walk_at "mine word"); (case q9l => walk_at "mine len"); k_whole); intro t' k'))
  k_with "subscriptTail Name Name str int" => ((k_here; (with_reducible show wpAny _ _ (subscriptTail _ _ (Value.str (mkS _) _) _) _ _ _); k_dflt (refine' t_item ?q9x ?q9i ?q9j ?_ ?q9hs ?q9ht; (case q9x => walk_at "mine len"); (case q9i => walk_at "mine len"); (case q9j => walk_at "mine len"); (case q9hs => with_unfolding_all rfl); (case q9ht => intro _; with_unfolding_all rfl); k_whole); intro c' hc'))
  k_with "exec While Compare cons nil" => ((k_here; k_extra "mine while"))
  k_with "IntTurn ret" => (dsimp only [IntTurn])
  k_with "IntTurn next" => ((refine' int_turn_next ?q9F ?q9N ?q9m ?q9P; (case q9F => k_asm); (case q9N => k_asm); (case q9m => k_extra "mine measure"); (case q9P => k_extra "mine state")))
  k_with "exec If" => ((k_here; k_extra "mine if"))
  k_with "exec For Name Name cons nil" => ((k_here; k_extra "mine for"))
  k_with "pyIter ref" => ((k_here; k_extra "mine iter"))
  k_with "LoopStep3 next" => ((k_extra "mine step"))
  k_with "inplaceOp Add str str" => ((k_here; k_dflt (refine' t_iadd ?q9x ?q9y ?q9l ?_; (case q9x => walk_at "mine word"); (case q9y => walk_at "mine word"); (case q9l => walk_at "mine len"); k_whole); intro t' k'))
  k_with "TurnEnd next" => ((refine' acc_next ?q9F ?q9N ?q9m ?q9hlt ?_; (case q9F => k_asm); (case q9N => k_asm); (case q9m => k_mem); (case q9hlt => assumption)))
  k_with "TurnEnd cont" => ((refine' acc_cont ?q9F ?q9N ?q9m ?q9hlt ?_; (case q9F => k_asm); (case q9N => k_asm); (case q9m => k_mem); (case q9hlt => assumption)))
  k_with "truthy ref" => ((k_here; k_dflt (refine' t_truthyL ?q9N ?q9m ?q9z ?_; (case q9N => k_asm); (case q9m => k_mem); (case q9z => walk_at "mine len"); k_whole); intro k'))
  k_with "subscriptTail Name UnaryOp ref int" => ((k_here; k_dflt (refine' t_last ?q9N ?q9m ?q9e ?q9z ?_ ?q9s; (case q9N => k_asm); (case q9m => k_mem); (case q9e => first | assumption | (simp_all; done)); (case q9z => walk_at "mine len"); (case q9s => with_unfolding_all rfl); k_whole); intro q' p' e'))
  k_with "call builtin:list.append" => ((k_here; k_dflt (refine' t_append ?q9F ?q9N ?q9y ?q9U ?q9z ?_; (case q9F => k_asm); (case q9N => k_asm); (case q9y => walk_at "mine word"); (case q9U => k_upd); (case q9z => walk_at "mine len"); k_whole); intro h' F' N'; (try k_sweep)))
  k_with "call builtin:list.pop" => ((k_here; k_dflt (refine' t_pop ?q9F ?q9N ?q9e ?q9U ?q9z ?_; (case q9F => k_asm); (case q9N => k_asm); (case q9e => first | assumption | (simp_all; done)); (case q9U => k_upd); (case q9z => walk_at "mine len"); k_whole); intro h' v' F' N'; (try k_sweep)))
  trivial
theorem lines_IlE1_1 : True := by
  k_with "getMethod str" => ((k_here; with_reducible refine gm_translate ?_))
  k_with "call builtin:str.translate" => ((k_here; k_dflt (refine' t_translate ?q9hh ?q9F ?q9N ?q9h1 ?_; (case q9hh => exact rfl); (case q9F => k_asm); (case q9N => k_asm); (case q9h1 => exact (by assumption : Frag.In _ _) 59 escObj (by k_is)); k_whole); intro t' h' k' F' N'; (try k_sweep)))
  trivial
set_option maxHeartbeats 8000000 in
theorem c_escape (prog : Program) (w : World) (p : Program) (loose : List Str) (mean : ExcName → Option Value) (mg mb : Str → Option Value) (c : Nat) (t : Tok) :
    Ct prog w p loose mean mg mb 69 2 16 [.str (mkS [c]) t] (fun t => .str (mkS (escS c)) t) := by
  walk_at "mine enter"
  k_steps
  all_goals walk_at "mine end"

end Mine
end -- IlE1
section -- IlD3
open PySem PySem.W PyProof.Rows PySem.Calls PySem.Spec
namespace Mine
theorem lines_IlD3L_1 : True := by
  k_with_none
  k_with "execs cons" => ((k_here; (try k_gentoks); (with_reducible refine wpAny_execs_cons ?_); (try dsimp only); k_fold))
  k_with "mine sub" => (first | exact fun _ h => h | exact fun _ h => .tail _ h | exact fun _ h => .tail _ (.tail _ h) | exact fun _ h => .tail _ (.tail _ (.tail _ h)) | exact fun _ h => .tail _ (.tail _ (.tail _ (.tail _ h))) | exact fun _ h => .tail _ (.tail _ (.tail _ (.tail _ (.tail _ h)))))
  k_with "mine eq" => (first | rfl | (subst_vars; rfl))
  k_with "mine end" => ((refine' ret_of (by assumption) _ ?q9e1 ?q9e2 ?q9e3 ?q9e4; (case q9e2 => k_asm); (case q9e3 => k_asm); (case q9e4 => walk_at "mine sub"); (case q9e1 => walk_at "mine eq"); (all_goals exact (0 : Nat))))
  k_with "mine endS" => ((refine' ret_of (by assumption) _ (veq ?_) ?q9e2 ?q9e3 ?q9e4; (case q9e2 => k_asm); (case q9e3 => k_asm); (case q9e4 => walk_at "mine sub")))
  k_with "mine lt" => (first | assumption | exact ktn_ltOf (by assumption))
  k_with "mine endT3" => ((refine' ret_ofT (by assumption) ?q9F ?q9N ?q9l ?q9s [(_, _), (_, _), (_, _)] ?q9o ?_; (case q9F => k_asm); (case q9N => k_asm); (case q9l => walk_at "mine lt"); (case q9s => walk_at "mine sub"); (case q9o => ((try simp only [w_nil, w_slash]); rfl))))
  k_with "mine endTT" => ((refine' ret_ofT (by assumption) ?q9F ?q9N ?q9l ?q9s _ ?q9o ?q9e; (case q9F => k_asm); (case q9N => k_asm); (case q9l => walk_at "mine lt"); (case q9s => walk_at "mine sub"); (case q9o => exact rfl); (case q9e => assumption)))
  k_with "mine endT2" => ((refine' ret_ofT (by assumption) ?q9F ?q9N ?q9l ?q9s [(_, _), (_, _)] ?q9o ?_; (case q9F => k_asm); (case q9N => k_asm); (case q9l => walk_at "mine lt"); (case q9s => walk_at "mine sub"); (case q9o => ((try simp only [w_nil, w_slash]); rfl))))
  k_with "mine enterT" => ((unfold CtT; intro dp un gd cn cs a ccd cl outer A₀ base h₀ L m news s Q E B F X N T hk hd hu hret; refine wpAny_call ?_; k_dflt cell_enter))
  k_with "mine enterR" => ((unfold Ct; intro dp un gd cn cs a ccd cl outer A₀ base h₀ L m news s Q E B F X N T hk hd hu hret; refine wpAny_call ?_; k_dflt (refine' kp_rest ?q9k1 ?q9k2 ?q9k3 ?q9k4 ?q9k5 ?q9kA ?q9kF ?q9kK ?q9k6 ?q9k7 ?q9k8 ?q9kV ?q9kP ?q9kG ?q9kB ?_ ?q9c2 ?q9c3 ?q9c4 ?q9c5; (case q9kA => exact rfl); (case q9kF => exact rfl); (case q9kK => assumption); (case q9k1 => k_asm); (case q9k2 => k_asm); (case q9k3 => k_asm); (case q9k4 => k_asm); (case q9k5 => k_asm); (case q9k6 => k_is); (case q9k7 => k_is); (case q9k8 => ktr_room); (case q9kV => kl_lit); (case q9kP => exact rfl); (case q9kG => exact fun _ => rfl); (case q9kB => exact fun _ => locs rfl); (case q9c5 => decide); (case q9c2 => exact rfl); (case q9c3 => exact rfl); (case q9c4 => exact rfl); k_whole); intro D' g' L' h' l1 FG' F' N' B' X' T'; (try k_lt l1); (try dsimp only); (try k_lift B'); (try k_fold)))
  k_with "mine enter" => ((unfold Ct; intro dp un gd cn cs a ccd cl outer A₀ base h₀ L m news s Q E B F X N T hk hd hu hret; refine wpAny_call ?_; k_dflt cell_enter))
  k_with "mine use" => (((case q9k1 => k_asm); (case q9k2 => k_asm); (case q9k3 => k_asm); (case q9k4 => k_asm); (case q9k5 => k_asm); (case q9kK => first | exact rfl | assumption); (case q9kd => ktr_room); (case q9ku => ktr_units); intro t9 h9 tk9 F9 N9; (try dsimp only); (try k_fold); (try k_sweep)))
  k_with "mine useT" => (((case q9k1 => k_asm); (case q9k2 => k_asm); (case q9k3 => k_asm); (case q9k4 => k_asm); (case q9k5 => k_asm); (case q9kK => first | exact rfl | assumption); (case q9kd => ktr_room); (case q9ku => ktr_units); intro D9 ps9 h9 tk9 e9 F9 N9 l9; (try k_lt l9); (try dsimp only); (try k_fold); (try k_sweep)))
  k_with "mine word" => (first | with_reducible exact w_slash | with_reducible exact w_dot | with_reducible exact w_dotdot | with_reducible exact w_nil | with_reducible rfl)
  k_with "mine len" => (first | assumption | lia | (simp only [List.length_take, List.length_drop, List.length_append, List.length_replicate, List.length_cons, List.length_nil]; lia))
  k_with "call builtin:issubclass" => ((k_here; k_dflt (refine' k_issub ?q9k1 ?q9k2 ?_; (case q9k1 => k_asm); (case q9k2 => k_mem); k_whole)))
  k_with "call builtin:str.rfind" => ((k_here; k_dflt (refine' t_rfind ?q9y ?_; (case q9y => walk_at "mine word"); k_whole); intro r' hr' h1' h2'))
  k_with "subscriptTail Name Slice str ref" => ((k_here; (with_reducible show wpAny _ _ (subscriptTail _ (Expr.Slice (some _) none none _) (Value.str (mkS _) _) _) _ _ _); k_dflt (refine' t_slice_from (s := ⟨_, _, _, _, _⟩) ?q9F ?q9N ?q9x ?q9i ?_ ?q9hs ?q9ht; (case q9F => k_asm); (case q9N => k_asm); (case q9x => walk_at "mine len"); (case q9i => walk_at "mine len"); (case q9hs => with_unfolding_all rfl); (case q9ht => intro _; with_unfolding_all rfl); k_whole); intro h' t' k' F' N'; (try k_sweep)))
  k_with "subscriptTail Name Slice str ref" => ((k_here; (with_reducible show wpAny _ _ (subscriptTail _ (Expr.Slice none (some _) none _) (Value.str (mkS _) _) _) _ _ _); k_dflt (refine' t_slice_to (s := ⟨_, _, _, _, _⟩) ?q9F ?q9N ?q9x ?q9i ?_ ?q9hs ?q9ht; (case q9F => k_asm); (case q9N => k_asm); (case q9x => walk_at "mine len"); (case q9i => walk_at "mine len"); (case q9hs => with_unfolding_all rfl); (case q9ht => intro _; with_unfolding_all rfl); k_whole); intro h' t' k' F' N'; (try k_sweep)))
  k_with "subscriptTail Name Slice str ref" => ((k_here; (with_reducible show wpAny _ _ (subscriptTail _ (Expr.Slice (some _) (some _) none _) (Value.str (mkS _) _) _) _ _ _); k_dflt (refine' t_slice_mid (s := ⟨_, _, _, _, _⟩) ?q9F ?q9N ?q9x ?q9i ?q9j ?_ ?q9hs ?q9ht; (case q9F => k_asm); (case q9N => k_asm); (case q9x => walk_at "mine len"); (case q9i => walk_at "mine len"); (case q9j => walk_at "mine len"); (case q9hs => with_unfolding_all rfl); (case q9ht => intro _; with_unfolding_all rfl); k_whole); intro h' t' k' F' N'; (try k_sweep)))
  k_with "truthy str" => ((k_here; (with_reducible show wpAny _ _ (PySem.truthy (Value.str (mkS _) _)) _ _ _); k_dflt (refine' t_truthy ?q9x ?_; (case q9x => walk_at "mine len"); k_whole); intro k'))
  k_with "call builtin:len" => ((k_here; (with_reducible show wpAny _ _ (call (Value.builtin "len") [Value.str (mkS _) _]) _ _ _); k_dflt (refine' t_len ?q9x ?_; (case q9x => walk_at "mine len"); k_whole); intro k'))
  k_with "compareOp NotEq str str" => ((k_here; (with_reducible show wpAny _ _ (compareOp CmpOp.NotEq (Value.str (mkS _) _) _) _ _ _); k_dflt (refine' t_ne ?q9y ?_; (case q9y => walk_at "mine word"); k_whole)))
  k_with "compareOp Eq str str" => ((k_here; (with_reducible show wpAny _ _ (compareOp CmpOp.Eq (Value.str (mkS _) _) _) _ _ _); k_dflt (refine' t_eq ?q9y ?_; (case q9y => walk_at "mine word"); k_whole)))
  k_with "binaryOp Add str str" => ((k_here; k_dflt (refine' t_add ?q9x ?q9y ?q9l ?_; (case q9x => walk_at "mine word"); (case q9y => walk_at "mine word"); (case q9l => walk_at "mine len"); k_whole); intro t' k'))
  k_with "binaryOp Mult str int" => ((k_here; k_dflt (refine' t_mul ?q9y ?q9a ?q9b ?_; (case q9y => walk_at "mine word"); (case q9a => walk_at "mine len"); (case q9b => walk_at "mine len"); k_whole); intro t' k'))
  k_with "call builtin:str.rstrip" => ((k_here; k_dflt (refine' t_rstrip ?q9y ?q9x ?_; (case q9y => walk_at "mine word"); (case q9x => walk_at "mine len"); k_whole); intro t' k'))
  k_with "call builtin:str.lstrip" => ((k_here; k_dflt (refine' t_lstrip ?q9y ?q9x ?_; (case q9y => walk_at "mine word"); (case q9x => walk_at "mine len"); k_whole); intro t' k'))
  k_with "call builtin:str.startswith" => ((k_here; k_dflt (refine' t_starts ?q9y ?_; (case q9y => walk_at "mine word"); k_whole)))
  k_with "call builtin:str.endswith" => ((k_here; k_dflt (refine' t_ends ?q9y ?_; (case q9y => walk_at "mine word"); k_whole)))
  k_with "call builtin:str.split" => ((k_here; k_dflt (refine' t_split ?q9F ?q9N ?q9y ?q9x ?_; (case q9F => k_asm); (case q9N => k_asm); (case q9y => walk_at "mine word"); (case q9x => walk_at "mine len"); k_whole); intro ps' h' k' e' F' N'; (try k_sweep)))
  k_with "call builtin:str.join" => ((k_here; k_dflt (refine' t_join ?q9N ?q9m ?q9y ?q9l ?_; (case q9N => k_asm); (case q9m => k_mem); (case q9y => walk_at "mine word"); (case q9l => walk_at "mine len"); k_whole); intro t' k'))
  k_with "subscriptTail Name Name str int" => ((k_here; (with_reducible show wpAny _ _ (subscriptTail _ _ (Value.str (mkS _) _) _) _ _ _); k_dflt (refine' t_item ?q9x ?q9i ?q9j ?_ ?q9hs ?q9ht; (case q9x => walk_at "mine len"); (case q9i => walk_at "mine len"); (case q9j => walk_at "mine len"); (case q9hs => with_unfolding_all rfl); (case q9ht => intro _; with_unfolding_all rfl); k_whole); intro c' hc'))
  k_with "exec While Compare cons nil" => ((k_here; k_extra "mine while"))
  k_with "IntTurn ret" => (dsimp only [IntTurn])
  k_with "IntTurn next" => ((refine' int_turn_next ?q9F ?q9N ?q9m ?q9P; (case q9F => k_asm); (case q9N => k_asm); (case q9m => k_extra "mine measure"); (case q9P => k_extra "mine state")))
  k_with "exec If" => ((k_here; k_extra "mine if"))
  k_with "exec For Name Name cons nil" => ((k_here; k_extra "mine for"))
  k_with "pyIter ref" => ((k_here; k_extra "mine iter"))
  k_with "LoopStep3 next" => ((k_extra "mine step"))
  k_with "inplaceOp Add str str" => ((k_here; k_dflt (refine' t_iadd ?q9x ?q9y ?q9l ?_; (case q9x => walk_at "mine word"); (case q9y => walk_at "mine word"); (case q9l => walk_at "mine len"); k_whole); intro t' k'))
  k_with "TurnEnd next" => ((refine' acc_next ?q9F ?q9N ?q9m ?q9hlt ?_; (case q9F => k_asm); (case q9N => k_asm); (case q9m => k_mem); (case q9hlt => assumption)))
  k_with "TurnEnd cont" => ((refine' acc_cont ?q9F ?q9N ?q9m ?q9hlt ?_; (case q9F => k_asm); (case q9N => k_asm); (case q9m => k_mem); (case q9hlt => assumption)))
  k_with "truthy ref" => ((k_here; k_dflt (refine' t_truthyL ?q9N ?q9m ?q9z ?_; (case q9N => k_asm); (case q9m => k_mem); (case q9z => walk_at "mine len"); k_whole); intro k'))
  k_with "subscriptTail Name UnaryOp ref int" => ((k_here; k_dflt (refine' t_last ?q9N ?q9m ?q9e ?q9z ?_ ?q9s; (case q9N => k_asm); (case q9m => k_mem); (case q9e => first | assumption | (simp_all; done)); (case q9z => walk_at "mine len"); (case q9s => with_unfolding_all rfl); k_whole); intro q' p' e'))
  k_with "call builtin:list.append" => ((k_here; k_dflt (refine' t_append ?q9F ?q9N ?q9y ?q9U ?q9z ?_; (case q9F => k_asm); (case q9N => k_asm); (case q9y => walk_at "mine word"); (case q9U => k_upd); (case q9z => walk_at "mine len"); k_whole); intro h' F' N'; (try k_sweep)))
  k_with "call builtin:list.pop" => ((k_here; k_dflt (refine' t_pop ?q9F ?q9N ?q9e ?q9U ?q9z ?_; (case q9F => k_asm); (case q9N => k_asm); (case q9e => first | assumption | (simp_all; done)); (case q9U => k_upd); (case q9z => walk_at "mine len"); k_whole); intro h' v' F' N'; (try k_sweep)))
  trivial
theorem lines_IlD3_1 : True := by
  k_with "call ref" => ((k_here; k_dflt (first
  | (refine' use_ct (c_fspath _ _ _ _ _ _ _ _ _) ?q9k1 ?q9k2 ?q9k3 ?q9k4 ?q9k5 ?q9kK ?q9kd ?q9ku ?_)
  | (refine' use_ct (c_get_sep _ _ _ _ _ _ _ _ _) ?q9k1 ?q9k2 ?q9k3 ?q9k4 ?q9k5 ?q9kK ?q9kd ?q9ku ?_)); walk_at "mine use"))
  trivial
/-- the last name's signs ahead of the last dot -/
noncomputable def segL (x : List Nat) : List Nat := (x.take (rfindL 46 x).toNat).drop (rfindL 47 x + 1).toNat
noncomputable def sextL (x : List Nat) : List (List Nat) :=
  if (segL x).any (fun c => decide (c ≠ 46)) = true then [x.take (rfindL 46 x).toNat, x.drop (rfindL 46 x).toNat] else [x, []]
theorem sext_hit {x : List Nat} {k : Int} (h1 : rfindL 47 x + 1 ≤ k) (h2 : k < rfindL 46 x) (h3 : (x.take (k + 1).toNat).drop k.toNat ≠ [46]) : sextL x = [x.take (rfindL 46 x).toNat, x.drop (rfindL 46 x).toNat] := by
  unfold sextL
  rw [if_pos]
  have hs := (rfindL_lt 47 x).1
  have hd := (rfindL_lt 46 x).2
  obtain ⟨n, rfl⟩ := Int.eq_ofNat_of_zero_le (show 0 ≤ k by lia)
  have hn : n < x.length := by lia
  rw [List.any_eq_true]
  refine ⟨x[n], ?_, ?_⟩
  · unfold segL
    have : (x.take (rfindL 46 x).toNat).drop (rfindL 47 x + 1).toNat = (x.take (rfindL 46 x).toNat).drop (rfindL 47 x + 1).toNat := rfl
    refine List.mem_of_getElem? (i := n - (rfindL 47 x + 1).toNat) ?_
    rw [List.getElem?_drop, List.getElem?_take, if_pos (by lia)]
    have : (rfindL 47 x + 1).toNat + (n - (rfindL 47 x + 1).toNat) = n := by lia
    rw [this, List.getElem?_eq_getElem hn]
  · rw [decide_eq_true_eq]
    intro e
    apply h3
    have h4 : ((n : Int) + 1).toNat = n + 1 := by lia
    have h5 : ((n : Int)).toNat = n := by lia
    rw [h4, h5, List.take_succ, List.getElem?_eq_getElem hn, List.drop_append_of_le_length (by rw [List.length_take]; lia), List.drop_eq_nil_of_le (by rw [List.length_take]; lia)]
    simp [e]
theorem sext_step {x : List Nat} {k : Int} (h1 : rfindL 47 x + 1 ≤ k) (h2 : k < rfindL 46 x) (h3 : (x.take (k + 1).toNat).drop k.toNat = [46]) (h4 : ∀ j : Nat, rfindL 47 x < j → (j : Int) < k → x[j]? = some 46) :
    ∀ j : Nat, rfindL 47 x < j → (j : Int) < k + 1 → x[j]? = some 46 := by
  intro j ha hb
  by_cases e : (j : Int) = k
  · have hs := (rfindL_lt 47 x).1
    have hd := (rfindL_lt 46 x).2
    subst e
    have hn : j < x.length := by lia
    have h4 : ((j : Int) + 1).toNat = j + 1 := by lia
    have h5 : ((j : Int)).toNat = j := by lia
    rw [h4, h5, List.take_succ, List.getElem?_eq_getElem hn, List.drop_append_of_le_length (by rw [List.length_take]; lia), List.drop_eq_nil_of_le (by rw [List.length_take]; lia)] at h3
    rw [List.getElem?_eq_getElem hn]
    simp at h3
    rw [h3]
  · exact h4 j ha (by lia)
theorem sext_miss {x : List Nat} (h : ∀ j : Nat, rfindL 47 x < j → (j : Int) < rfindL 46 x → x[j]? = some 46) : sextL x = [x, []] := by
  unfold sextL
  rw [if_neg]
  rw [List.any_eq_true]
  rintro ⟨c, hc, hn⟩
  obtain ⟨i, hi⟩ := List.getElem?_of_mem hc
  unfold segL at hi
  rw [List.getElem?_drop, List.getElem?_take] at hi
  have hs := (rfindL_lt 47 x).1
  split at hi
  · rw [h _ (by lia) (by lia)] at hi
    cases hi
    simp at hn
  · cases hi
set_option maxHeartbeats 8000000 in
theorem c_splitext0 (prog : Program) (w : World) (p : Program) (loose : List Str) (mean : ExcName → Option Value) (mg mb : Str → Option Value) (x : List Nat) (t u v : Tok) (hx : x.length ≤ 100000) :
    CtT prog w p loose mean mg mb 163 2 16 [.str (mkS x) t, .str (Str.ofString "/") u, .none, .str (Str.ofString ".") v] (sextL x) := by
  k_with "mine while" =>
    k_dflt (refine' while_int (Str.ofString "filenameIndex") (fun k => rfindL 47 x + 1 ≤ k ∧ k ≤ rfindL 46 x ∧ ∀ j : Nat, rfindL 47 x < j → (j : Int) < k → x[j]? = some 46) (fun k => (rfindL 46 x - k).toNat) ?F ?N ?m ?P ?turn ?E; (case F => k_asm); (case N => k_asm); (case m => exact rfl); (case E => with_unfolding_all passes_own); (case P => (subst_vars; refine ⟨by lia, by lia, fun j _ _ => by lia⟩)))
    intro k' t' h' tk' hP' F' N'
  k_with "mine measure" => lia
  k_with "mine state" => (subst_vars; refine ⟨by lia, by lia, sext_step hP'.1 (by lia) (Decidable.not_not.mp (by assumption)) hP'.2.2⟩)
  walk_at "mine enterT"
  k_steps
  all_goals walk_at "mine endT2"
  all_goals (subst_vars; show _ = sextL x)
  · exact (sext_hit (x := x) hP'.1 (by lia) (by assumption)).symm
  · exact (sext_miss (x := x) fun j h1 h2 => hP'.2.2 j h1 (by lia)).symm
  · exact (sext_miss (x := x) fun j h1 h2 => by lia).symm
theorem lines_IlD3_2 : True := by
  k_with "call ref" => ((k_here; k_dflt (refine' use_ctT (c_splitext0 _ _ _ _ _ _ _ _ _ _ _ ?q9hx) ?q9k1 ?q9k2 ?q9k3 ?q9k4 ?q9k5 ?q9kK ?q9kd ?q9ku ?_; (case q9hx => walk_at "mine len"); walk_at "mine useT")))
  trivial
set_option maxHeartbeats 8000000 in
theorem c_splitext (prog : Program) (w : World) (p : Program) (loose : List Str) (mean : ExcName → Option Value) (mg mb : Str → Option Value) (x : List Nat) (t : Tok) (hx : x.length ≤ 100000) :
    CtT prog w p loose mean mg mb 191 3 24 [.str (mkS x) t] (sextL x) := by
  walk_at "mine enterT"
  k_steps
  walk_at "mine endTT"

end Mine
end -- IlD3
section -- IlD4
open PySem PySem.W PyProof.Rows PySem.Calls PySem.Spec
namespace Mine
theorem lines_IlD4L_1 : True := by
  k_with_none
  k_with "execs cons" => ((k_here; (try k_gentoks); (with_reducible refine wpAny_execs_cons ?_); (try dsimp only); k_fold))
  k_with "mine sub" => (first | exact fun _ h => h | exact fun _ h => .tail _ h | exact fun _ h => .tail _ (.tail _ h) | exact fun _ h => .tail _ (.tail _ (.tail _ h)) | exact fun _ h => .tail _ (.tail _ (.tail _ (.tail _ h))) | exact fun _ h => .tail _ (.tail _ (.tail _ (.tail _ (.tail _ h)))))
  k_with "mine eq" => (first | rfl | (subst_vars; rfl))
  k_with "mine end" => ((refine' ret_of (by assumption) _ ?q9e1 ?q9e2 ?q9e3 ?q9e4; (case q9e2 => k_asm); (case q9e3 => k_asm); (case q9e4 => walk_at "mine sub"); (case q9e1 => walk_at "mine eq"); (all_goals exact (0 : Nat))))
  k_with "mine endS" => ((refine' ret_of (by assumption) _ (veq ?_) ?q9e2 ?q9e3 ?q9e4; (case q9e2 => k_asm); (case q9e3 => k_asm); (case q9e4 => walk_at "mine sub")))
  k_with "mine lt" => (first | assumption | exact ktn_ltOf (by assumption))
  k_with "mine endT3" => ((refine' ret_ofT (by assumption) ?q9F ?q9N ?q9l ?q9s [(_, _), (_, _), (_, _)] ?q9o ?_; (case q9F => k_asm); (case q9N => k_asm); (case q9l => walk_at "mine lt"); (case q9s => walk_at "mine sub"); (case q9o => ((try simp only [w_nil, w_slash]); rfl))))
  k_with "mine endTT" => ((refine' ret_ofT (by assumption) ?q9F ?q9N ?q9l ?q9s _ ?q9o ?q9e; (case q9F => k_asm); (case q9N => k_asm); (case q9l => walk_at "mine lt"); (case q9s => walk_at "mine sub"); (case q9o => exact rfl); (case q9e => assumption)))
  k_with "mine endT2" => ((refine' ret_ofT (by assumption) ?q9F ?q9N ?q9l ?q9s [(_, _), (_, _)] ?q9o ?_; (case q9F => k_asm); (case q9N => k_asm); (case q9l => walk_at "mine lt"); (case q9s => walk_at "mine sub"); (case q9o => ((try simp only [w_nil, w_slash]); rfl))))
  k_with "mine enterT" => ((unfold CtT; intro dp un gd cn cs a ccd cl outer A₀ base h₀ L m news s Q E B F X N T hk hd hu hret; refine wpAny_call ?_; k_dflt cell_enter))
  k_with "mine enterR" => ((unfold Ct; intro dp un gd cn cs a ccd cl outer A₀ base h₀ L m news s Q E B F X N T hk hd hu hret; refine wpAny_call ?_; k_dflt (refine' kp_rest ?q9k1 ?q9k2 ?q9k3 ?q9k4 ?q9k5 ?q9kA ?q9kF ?q9kK ?q9k6 ?q9k7 ?q9k8 ?q9kV ?q9kP ?q9kG ?q9kB ?_ ?q9c2 ?q9c3 ?q9c4 ?q9c5; (case q9kA => exact rfl); (case q9kF => exact rfl); (case q9kK => assumption); (case q9k1 => k_asm); (case q9k2 => k_asm); (case q9k3 => k_asm); (case q9k4 => k_asm); (case q9k5 => k_asm); (case q9k6 => k_is); (case q9k7 => k_is); (case q9k8 => ktr_room); (case q9kV => kl_lit); (case q9kP => exact rfl); (case q9kG => exact fun _ => rfl); (case q9kB => exact fun _ => locs rfl); (case q9c5 => decide); (case q9c2 => exact rfl); (case q9c3 => exact rfl); (case q9c4 => exact rfl); k_whole); intro D' g' L' h' l1 FG' F' N' B' X' T'; (try k_lt l1); (try dsimp only); (try k_lift B'); (try k_fold)))
  k_with "mine enter" => ((unfold Ct; intro dp un gd cn cs a ccd cl outer A₀ base h₀ L m news s Q E B F X N T hk hd hu hret; refine wpAny_call ?_; k_dflt cell_enter))
  k_with "mine use" => (((case q9k1 => k_asm); (case q9k2 => k_asm); (case q9k3 => k_asm); (case q9k4 => k_asm); (case q9k5 => k_asm); (case q9kK => first | exact rfl | assumption); (case q9kd => ktr_room); (case q9ku => ktr_units); intro t9 h9 tk9 F9 N9; (try dsimp only); (try k_fold); (try k_sweep)))
  k_with "mine useT" => (((case q9k1 => k_asm); (case q9k2 => k_asm); (case q9k3 => k_asm); (case q9k4 => k_asm); (case q9k5 => k_asm); (case q9kK => first | exact rfl | assumption); (case q9kd => ktr_room); (case q9ku => ktr_units); intro D9 ps9 h9 tk9 e9 F9 N9 l9; (try k_lt l9); (try dsimp only); (try k_fold); (try k_sweep)))
  k_with "mine word" => (first | with_reducible exact w_slash | with_reducible exact w_dot | with_reducible exact w_dotdot | with_reducible exact w_nil | with_reducible rfl)
  k_with "mine len" => (first | assumption | lia | (simp only [List.length_take, List.length_drop, List.length_append, List.length_replicate, List.length_cons, List.length_nil]; lia))
  k_with "call builtin:issubclass" => ((k_here; k_dflt (refine' k_issub ?q9k1 ?q9k2 ?_; (case q9k1 => k_asm); (case q9k2 => k_mem); k_whole)))
  k_with "call builtin:str.rfind" => ((k_here; k_dflt (refine' t_rfind ?q9y ?_; (case q9y => walk_at "mine word"); k_whole); intro r' hr' h1' h2'))
  k_with "subscriptTail Name Slice str ref" => ((k_here; (with_reducible show wpAny _ _ (subscriptTail _ (Expr.Slice (some _) none none _) (Value.str (mkS _) _) _) _ _ _); k_dflt (refine' t_slice_from (s := ⟨_, _, _, _, _⟩) ?q9F ?q9N ?q9x ?q9i ?_ ?q9hs ?q9ht; (case q9F => k_asm); (case q9N => k_asm); (case q9x => walk_at "mine len"); (case q9i => walk_at "mine len"); (case q9hs => with_unfolding_all rfl); (case q9ht => intro _; with_unfolding_all rfl); k_whole); intro h' t' k' F' N'; (try k_sweep)))
  k_with "subscriptTail Name Slice str ref" => ((k_here; (with_reducible show wpAny _ _ (subscriptTail _ (Expr.Slice none (some _) none _) (Value.str (mkS _) _) _) _ _ _); k_dflt (refine' t_slice_to (s := ⟨_, _, _, _, _⟩) ?q9F ?q9N ?q9x ?q9i ?_ ?q9hs ?q9ht; (case q9F => k_asm); (case q9N => k_asm); (case q9x => walk_at "mine len"); (case q9i => walk_at "mine len"); (case q9hs => with_unfolding_all rfl); (case q9ht => intro _; with_unfolding_all rfl); k_whole); intro h' t' k' F' N'; (try k_sweep)))
  k_with "subscriptTail Name Slice str ref" => ((k_here; (with_reducible show wpAny _ _ (subscriptTail _ (Expr.Slice (some _) (some _) none _) (Value.str (mkS _) _) _) _ _ _); k_dflt (refine' t_slice_mid (s := ⟨_, _, _, _, _⟩) ?q9F ?q9N ?q9x ?q9i ?q9j ?_ ?q9hs ?q9ht; (case q9F => k_asm); (case q9N => k_asm); (case q9x => walk_at "mine len"); (case q9i => walk_at "mine len"); (case q9j => walk_at "mine len"); (case q9hs => with_unfolding_all rfl); (case q9ht => intro _; with_unfolding_all rfl); k_whole); intro h' t' k' F' N'; (try k_sweep)))
  k_with "truthy str" => ((k_here; (with_reducible show wpAny _ _ (PySem.truthy (Value.str (mkS _) _)) _ _ _); k_dflt (refine' t_truthy ?q9x ?_; (case q9x => walk_at "mine len"); k_whole); intro k'))
  k_with "call builtin:len" => ((k_here; (with_reducible show wpAny _ _ (call (Value.builtin "len") [Value.str (mkS _) _]) _ _ _); k_dflt (refine' t_len ?q9x ?_; (case q9x => walk_at "mine len"); k_whole); intro k'))
  k_with "compareOp NotEq str str" => ((k_here; (with_reducible show wpAny _ _ (compareOp CmpOp.NotEq (Value.str (mkS _) _) _) _ _ _); k_dflt (refine' t_ne ?q9y ?_; (case q9y => walk_at "mine word"); k_whole)))
  k_with "compareOp Eq str str" => ((k_here; (with_reducible show wpAny _ _ (compareOp CmpOp.Eq (Value.str (mkS _) _) _) _ _ _); k_dflt (refine' t_eq ?q9y ?_; (case q9y => walk_at "mine word"); k_whole)))
  k_with "binaryOp Add str str" => ((k_here; k_dflt (refine' t_add ?q9x ?q9y ?q9l ?_; (case q9x => walk_at "mine word"); (case q9y => walk_at "mine word"); (case q9l => walk_at "mine len"); k_whole); intro t' k'))
  k_with "binaryOp Mult str int" => ((k_here; k_dflt (refine' t_mul ?q9y ?q9a ?q9b ?_; (case q9y => walk_at "mine word"); (case q9a => walk_at "mine len"); (case q9b => walk_at "mine len"); k_whole); intro t' k'))
  k_with "call builtin:str.rstrip" => ((k_here; k_dflt (refine' t_rstrip ?q9y ?q9x ?_; (case q9y => walk_at "mine word"); (case q9x => walk_at "mine len"); k_whole); intro t' k'))
  k_with "call builtin:str.lstrip" => ((k_here; k_dflt (refine' t_lstrip ?q9y ?q9x ?_; (case q9y => walk_at "mine word"); (case q9x => walk_at "mine len"); k_whole); intro t' k'))
  k_with "call builtin:str.startswith" => ((k_here; k_dflt (refine' t_starts ?q9y ?_; (case q9y => walk_at "mine word"); k_whole)))
  k_with "call builtin:str.endswith" => ((k_here; k_dflt (refine' t_ends ?q9y ?_; (case q9y => walk_at "mine word"); k_whole)))
  k_with "call builtin:str.split" => ((k_here; k_dflt (refine' t_split ?q9F ?q9N ?q9y ?q9x ?_; (case q9F => k_asm); (case q9N => k_asm); (case q9y => walk_at "mine word"); (case q9x => walk_at "mine len"); k_whole); intro ps' h' k' e' F' N'; (try k_sweep)))
  k_with "call builtin:str.join" => ((k_here; k_dflt (refine' t_join ?q9N ?q9m ?q9y ?q9l ?_; (case q9N => k_asm); (case q9m => k_mem); (case q9y => walk_at "mine word"); (case q9l => walk_at "mine len"); k_whole); intro t' k'))
  k_with "subscriptTail Name Name str int" => ((k_here; (with_reducible show wpAny _ _ (subscriptTail _ _ (Value.str (mkS _) _) _) _ _ _); k_dflt (refine' t_item ?q9x ?q9i ?q9j ?_ ?q9hs ?q9ht; (case q9x => walk_at "mine len"); (case q9i => walk_at "mine len"); (case q9j => walk_at "mine len"); (case q9hs => with_unfolding_all rfl); (case q9ht => intro _; with_unfolding_all rfl); k_whole); intro c' hc'))
  k_with "exec While Compare cons nil" => ((k_here; k_extra "mine while"))
  k_with "IntTurn ret" => (dsimp only [IntTurn])
  k_with "IntTurn next" => ((refine' int_turn_next ?q9F ?q9N ?q9m ?q9P; (case q9F => k_asm); (case q9N => k_asm); (case q9m => k_extra "mine measure"); (case q9P => k_extra "mine state")))
  k_with "exec If" => ((k_here; k_extra "mine if"))
  k_with "exec For Name Name cons nil" => ((k_here; k_extra "mine for"))
  k_with "pyIter ref" => ((k_here; k_extra "mine iter"))
  k_with "LoopStep3 next" => ((k_extra "mine step"))
  k_with "inplaceOp Add str str" => ((k_here; k_dflt (refine' t_iadd ?q9x ?q9y ?q9l ?_; (case q9x => walk_at "mine word"); (case q9y => walk_at "mine word"); (case q9l => walk_at "mine len"); k_whole); intro t' k'))
  k_with "TurnEnd next" => ((refine' acc_next ?q9F ?q9N ?q9m ?q9hlt ?_; (case q9F => k_asm); (case q9N => k_asm); (case q9m => k_mem); (case q9hlt => assumption)))
  k_with "TurnEnd cont" => ((refine' acc_cont ?q9F ?q9N ?q9m ?q9hlt ?_; (case q9F => k_asm); (case q9N => k_asm); (case q9m => k_mem); (case q9hlt => assumption)))
  k_with "truthy ref" => ((k_here; k_dflt (refine' t_truthyL ?q9N ?q9m ?q9z ?_; (case q9N => k_asm); (case q9m => k_mem); (case q9z => walk_at "mine len"); k_whole); intro k'))
  k_with "subscriptTail Name UnaryOp ref int" => ((k_here; k_dflt (refine' t_last ?q9N ?q9m ?q9e ?q9z ?_ ?q9s; (case q9N => k_asm); (case q9m => k_mem); (case q9e => first | assumption | (simp_all; done)); (case q9z => walk_at "mine len"); (case q9s => with_unfolding_all rfl); k_whole); intro q' p' e'))
  k_with "call builtin:list.append" => ((k_here; k_dflt (refine' t_append ?q9F ?q9N ?q9y ?q9U ?q9z ?_; (case q9F => k_asm); (case q9N => k_asm); (case q9y => walk_at "mine word"); (case q9U => k_upd); (case q9z => walk_at "mine len"); k_whole); intro h' F' N'; (try k_sweep)))
  k_with "call builtin:list.pop" => ((k_here; k_dflt (refine' t_pop ?q9F ?q9N ?q9e ?q9U ?q9z ?_; (case q9F => k_asm); (case q9N => k_asm); (case q9e => first | assumption | (simp_all; done)); (case q9U => k_upd); (case q9z => walk_at "mine len"); k_whole); intro h' v' F' N'; (try k_sweep)))
  trivial
theorem lines_IlD4_1 : True := by
  k_with "call ref" => ((k_here; k_dflt (first
  | (refine' use_ct (c_fspath _ _ _ _ _ _ _ _ _) ?q9k1 ?q9k2 ?q9k3 ?q9k4 ?q9k5 ?q9kK ?q9kd ?q9ku ?_)
  | (refine' use_ct (c_get_sep _ _ _ _ _ _ _ _ _) ?q9k1 ?q9k2 ?q9k3 ?q9k4 ?q9k5 ?q9kK ?q9kd ?q9ku ?_)); walk_at "mine use"))
  trivial
noncomputable def join2L (a y : List Nat) : List Nat := if y.head? = some 47 ∨ a = [] then y else if a.getLast? = some 47 then a ++ y else a ++ ([47] ++ y)
set_option maxHeartbeats 8000000 in
theorem c_join (prog : Program) (w : World) (p : Program) (loose : List Str) (mean : ExcName → Option Value) (mg mb : Str → Option Value) (x y : List Nat) (t u : Tok) (hx : x.length ≤ 100000) (hy : y.length ≤ 100000) :
    Ct prog w p loose mean mg mb 184 2 24 [.str (mkS x) t, .str (mkS y) u] (fun t => .str (mkS (join2L x y)) t) := by
  k_with "mine for" =>
    rename Fr _ _ _ _ => Fw
    k_dflt (refine' For_unrF Fw ?_ (by intro _; rfl) (by passes_own))
  k_with "mine iter" =>
    rename Fr _ _ _ _ => Fw
    rename News _ _ _ _ => Nw
    k_dflt (refine' Iter_tuple_unr rfl ?ht Fw Nw ?hL ?_; (case ht => exact ⟨_, (Nw _ (.head _)).1, rfl, _, rfl⟩); (case hL => exact (Nw _ (.head _)).2.1))
    refine Unr.succ ?_
    intro v h₁ tk₁ own hP hown F₁ N₁
    cases hP
    refine wpAny_assign_Name ?_
  k_with "mine step" =>
    rename Fr _ _ _ _ => Fw
    rename News _ _ _ (_ ++ _) => Nw
    refine LoopStep3.next (LoopStep2.intro Fw Nw rfl (Unr.zero ?_))
    intro h₂ tk₂ F₂ N₂
  walk_at "mine enterR"
  k_steps
  all_goals walk_at "mine endS"
  all_goals (subst_vars; unfold join2L; (repeat' split) <;> first | rfl | grind)

end Mine
end -- IlD4
section -- IlD5
open PySem PySem.W PyProof.Rows PySem.Calls PySem.Spec
namespace Mine
theorem lines_IlD5L_1 : True := by
  k_with_none
  k_with "mine sub" => (first | exact fun _ h => h | exact fun _ h => .tail _ h | exact fun _ h => .tail _ (.tail _ h) | exact fun _ h => .tail _ (.tail _ (.tail _ h)) | exact fun _ h => .tail _ (.tail _ (.tail _ (.tail _ h))) | exact fun _ h => .tail _ (.tail _ (.tail _ (.tail _ (.tail _ h)))))
  k_with "mine eq" => (first | rfl | (subst_vars; rfl))
  k_with "mine end" => ((refine' ret_of (by assumption) _ ?q9e1 ?q9e2 ?q9e3 ?q9e4; (case q9e2 => k_asm); (case q9e3 => k_asm); (case q9e4 => walk_at "mine sub"); (case q9e1 => walk_at "mine eq"); (all_goals exact (0 : Nat))))
  k_with "mine endS" => ((refine' ret_of (by assumption) _ (veq ?_) ?q9e2 ?q9e3 ?q9e4; (case q9e2 => k_asm); (case q9e3 => k_asm); (case q9e4 => walk_at "mine sub")))
  k_with "mine lt" => (first | assumption | exact ktn_ltOf (by assumption))
  k_with "mine endT3" => ((refine' ret_ofT (by assumption) ?q9F ?q9N ?q9l ?q9s [(_, _), (_, _), (_, _)] ?q9o ?_; (case q9F => k_asm); (case q9N => k_asm); (case q9l => walk_at "mine lt"); (case q9s => walk_at "mine sub"); (case q9o => ((try simp only [w_nil, w_slash]); rfl))))
  k_with "mine endTT" => ((refine' ret_ofT (by assumption) ?q9F ?q9N ?q9l ?q9s _ ?q9o ?q9e; (case q9F => k_asm); (case q9N => k_asm); (case q9l => walk_at "mine lt"); (case q9s => walk_at "mine sub"); (case q9o => exact rfl); (case q9e => assumption)))
  k_with "mine endT2" => ((refine' ret_ofT (by assumption) ?q9F ?q9N ?q9l ?q9s [(_, _), (_, _)] ?q9o ?_; (case q9F => k_asm); (case q9N => k_asm); (case q9l => walk_at "mine lt"); (case q9s => walk_at "mine sub"); (case q9o => ((try simp only [w_nil, w_slash]); rfl))))
  k_with "mine enterT" => ((unfold CtT; intro dp un gd cn cs a ccd cl outer A₀ base h₀ L m news s Q E B F X N T hk hd hu hret; refine wpAny_call ?_; k_dflt cell_enter))
  k_with "mine enterR" => ((unfold Ct; intro dp un gd cn cs a ccd cl outer A₀ base h₀ L m news s Q E B F X N T hk hd hu hret; refine wpAny_call ?_; k_dflt (refine' kp_rest ?q9k1 ?q9k2 ?q9k3 ?q9k4 ?q9k5 ?q9kA ?q9kF ?q9kK ?q9k6 ?q9k7 ?q9k8 ?q9kV ?q9kP ?q9kG ?q9kB ?_ ?q9c2 ?q9c3 ?q9c4 ?q9c5; (case q9kA => exact rfl); (case q9kF => exact rfl); (case q9kK => assumption); (case q9k1 => k_asm); (case q9k2 => k_asm); (case q9k3 => k_asm); (case q9k4 => k_asm); (case q9k5 => k_asm); (case q9k6 => k_is); (case q9k7 => k_is); (case q9k8 => ktr_room); (case q9kV => kl_lit); (case q9kP => exact rfl); (case q9kG => exact fun _ => rfl); (case q9kB => exact fun _ => locs rfl); (case q9c5 => decide); (case q9c2 => exact rfl); (case q9c3 => exact rfl); (case q9c4 => exact rfl); k_whole); intro D' g' L' h' l1 FG' F' N' B' X' T'; (try k_lt l1); (try dsimp only); (try k_lift B'); (try k_fold)))
  k_with "mine enter" => ((unfold Ct; intro dp un gd cn cs a ccd cl outer A₀ base h₀ L m news s Q E B F X N T hk hd hu hret; refine wpAny_call ?_; k_dflt cell_enter))
  k_with "mine use" => (((case q9k1 => k_asm); (case q9k2 => k_asm); (case q9k3 => k_asm); (case q9k4 => k_asm); (case q9k5 => k_asm); (case q9kK => first | exact rfl | assumption); (case q9kd => ktr_room); (case q9ku => ktr_units); intro t9 h9 tk9 F9 N9; (try dsimp only); (try k_fold); (try k_sweep)))
  k_with "mine useT" => (((case q9k1 => k_asm); (case q9k2 => k_asm); (case q9k3 => k_asm); (case q9k4 => k_asm); (case q9k5 => k_asm); (case q9kK => first | exact rfl | assumption); (case q9kd => ktr_room); (case q9ku => ktr_units); intro D9 ps9 h9 tk9 e9 F9 N9 l9; (try k_lt l9); (try dsimp only); (try k_fold); (try k_sweep)))
  k_with "mine word" => (first | with_reducible exact w_slash | with_reducible exact w_dot | with_reducible exact w_dotdot | with_reducible exact w_nil | with_reducible rfl)
  k_with "mine len" => (first | assumption | lia | (simp only [List.length_take, List.length_drop, List.length_append, List.length_replicate, List.length_cons, List.length_nil]; lia))
  k_with "call builtin:issubclass" => ((k_here; k_dflt (refine' k_issub ?q9k1 ?q9k2 ?_; (case q9k1 => k_asm); (case q9k2 => k_mem); k_whole)))
  k_with "call builtin:str.rfind" => ((k_here; k_dflt (refine' t_rfind ?q9y ?_; (case q9y => walk_at "mine word"); k_whole); intro r' hr' h1' h2'))
  k_with "subscriptTail Name Slice str ref" => ((k_here; (with_reducible show wpAny _ _ (subscriptTail _ (Expr.Slice (some _) none none _) (Value.str (mkS _) _) _) _ _ _); k_dflt (refine' t_slice_from (s := ⟨_, _, _, _, _⟩) ?q9F ?q9N ?q9x ?q9i ?_ ?q9hs ?q9ht; (case q9F => k_asm); (case q9N => k_asm); (case q9x => walk_at "mine len"); (case q9i => walk_at "mine len"); (case q9hs => with_unfolding_all rfl); (case q9ht => intro _; with_unfolding_all rfl); k_whole); intro h' t' k' F' N'; (try k_sweep)))
  k_with "subscriptTail Name Slice str ref" => ((k_here; (with_reducible show wpAny _ _ (subscriptTail _ (Expr.Slice none (some _) none _) (Value.str (mkS _) _) _) _ _ _); k_dflt (refine' t_slice_to (s := ⟨_, _, _, _, _⟩) ?q9F ?q9N ?q9x ?q9i ?_ ?q9hs ?q9ht; (case q9F => k_asm); (case q9N => k_asm); (case q9x => walk_at "mine len"); (case q9i => walk_at "mine len"); (case q9hs => with_unfolding_all rfl); (case q9ht => intro _; with_unfolding_all rfl); k_whole); intro h' t' k' F' N'; (try k_sweep)))
  k_with "subscriptTail Name Slice str ref" => ((k_here; (with_reducible show wpAny _ _ (subscriptTail _ (Expr.Slice (some _) (some _) none _) (Value.str (mkS _) _) _) _ _ _); k_dflt (refine' t_slice_mid (s := ⟨_, _, _, _, _⟩) ?q9F ?q9N ?q9x ?q9i ?q9j ?_ ?q9hs ?q9ht; (case q9F => k_asm); (case q9N => k_asm); (case q9x => walk_at "mine len"); (case q9i => walk_at "mine len"); (case q9j => walk_at "mine len"); (case q9hs => with_unfolding_all rfl); (case q9ht => intro _; with_unfolding_all rfl); k_whole); intro h' t' k' F' N'; (try k_sweep)))
  k_with "truthy str" => ((k_here; (with_reducible show wpAny _ _ (PySem.truthy (Value.str (mkS _) _)) _ _ _); k_dflt (refine' t_truthy ?q9x ?_; (case q9x => walk_at "mine len"); k_whole); intro k'))
  k_with "call builtin:len" => ((k_here; (with_reducible show wpAny _ _ (call (Value.builtin "len") [Value.str (mkS _) _]) _ _ _); k_dflt (refine' t_len ?q9x ?_; (case q9x => walk_at "mine len"); k_whole); intro k'))
  k_with "compareOp NotEq str str" => ((k_here; (with_reducible show wpAny _ _ (compareOp CmpOp.NotEq (Value.str (mkS _) _) _) _ _ _); k_dflt (refine' t_ne ?q9y ?_; (case q9y => walk_at "mine word"); k_whole)))
  k_with "compareOp Eq str str" => ((k_here; (with_reducible show wpAny _ _ (compareOp CmpOp.Eq (Value.str (mkS _) _) _) _ _ _); k_dflt (refine' t_eq ?q9y ?_; (case q9y => walk_at "mine word"); k_whole)))
  k_with "binaryOp Add str str" => ((k_here; k_dflt (refine' t_add ?q9x ?q9y ?q9l ?_; (case q9x => walk_at "mine word"); (case q9y => walk_at "mine word"); (case q9l => walk_at "mine len"); k_whole); intro t' k'))
  k_with "binaryOp Mult str int" => ((k_here; k_dflt (refine' t_mul ?q9y ?q9a ?q9b ?_; (case q9y => walk_at "mine word"); (case q9a => walk_at "mine len"); (case q9b => walk_at "mine len"); k_whole); intro t' k'))
  k_with "call builtin:str.rstrip" => ((k_here; k_dflt (refine' t_rstrip ?q9y ?q9x ?_; (case q9y => walk_at "mine word"); (case q9x => walk_at "mine len"); k_whole); intro t' k'))
  k_with "call builtin:str.lstrip" => ((k_here; k_dflt (refine' t_lstrip ?q9y ?q9x ?_; (case q9y => walk_at "mine word"); (case q9x => walk_at "mine len"); k_whole); intro t' k'))
  k_with "call builtin:str.startswith" => ((k_here; k_dflt (refine' t_starts ?q9y ?_; (case q9y => walk_at "mine word"); k_whole)))
  k_with "call builtin:str.endswith" => ((k_here; k_dflt (refine' t_ends ?q9y ?_; (case q9y => walk_at "mine word"); k_whole)))
  k_with "call builtin:str.split" => ((k_here; k_dflt (refine' t_split ?q9F ?q9N ?q9y ?q9x ?_; (case q9F => k_asm); (case q9N => k_asm); (case q9y => walk_at "mine word"); (case q9x => walk_at "mine len"); k_whole); intro ps' h' k' e' F' N'; (try k_sweep)))
  k_with "call builtin:str.join" => ((k_here; k_dflt (refine' t_join ?q9N ?q9m ?q9y ?q9l ?_; (case q9N => k_asm); (case q9m => k_mem); (case q9y => walk_at "mine word"); (case q9l => walk_at "mine len"); k_whole); intro t' k'))
  k_with "subscriptTail Name Name str int" => ((k_here; (with_reducible show wpAny _ _ (subscriptTail _ _ (Value.str (mkS _) _) _) _ _ _); k_dflt (refine' t_item ?q9x ?q9i ?q9j ?_ ?q9hs ?q9ht; (case q9x => walk_at "mine len"); (case q9i => walk_at "mine len"); (case q9j => walk_at "mine len"); (case q9hs => with_unfolding_all rfl); (case q9ht => intro _; with_unfolding_all rfl); k_whole); intro c' hc'))
  k_with "exec While Compare cons nil" => ((k_here; k_extra "mine while"))
  k_with "IntTurn ret" => (dsimp only [IntTurn])
  k_with "IntTurn next" => ((refine' int_turn_next ?q9F ?q9N ?q9m ?q9P; (case q9F => k_asm); (case q9N => k_asm); (case q9m => k_extra "mine measure"); (case q9P => k_extra "mine state")))
  k_with "exec If" => ((k_here; k_extra "mine if"))
  k_with "exec For Name Name cons nil" => ((k_here; k_extra "mine for"))
  k_with "pyIter ref" => ((k_here; k_extra "mine iter"))
  k_with "LoopStep3 next" => ((k_extra "mine step"))
  k_with "inplaceOp Add str str" => ((k_here; k_dflt (refine' t_iadd ?q9x ?q9y ?q9l ?_; (case q9x => walk_at "mine word"); (case q9y => walk_at "mine word"); (case q9l => walk_at "mine len"); k_whole); intro t' k'))
  k_with "TurnEnd next" => ((refine' acc_next ?q9F ?q9N ?q9m ?q9hlt ?_; (case q9F => k_asm); (case q9N => k_asm); (case q9m => k_mem); (case q9hlt => assumption)))
  k_with "TurnEnd cont" => ((refine' acc_cont ?q9F ?q9N ?q9m ?q9hlt ?_; (case q9F => k_asm); (case q9N => k_asm); (case q9m => k_mem); (case q9hlt => assumption)))
  k_with "truthy ref" => ((k_here; k_dflt (refine' t_truthyL ?q9N ?q9m ?q9z ?_; (case q9N => k_asm); (case q9m => k_mem); (case q9z => walk_at "mine len"); k_whole); intro k'))
  k_with "subscriptTail Name UnaryOp ref int" => ((k_here; k_dflt (refine' t_last ?q9N ?q9m ?q9e ?q9z ?_ ?q9s; (case q9N => k_asm); (case q9m => k_mem); (case q9e => first | assumption | (simp_all; done)); (case q9z => walk_at "mine len"); (case q9s => with_unfolding_all rfl); k_whole); intro q' p' e'))
  k_with "call builtin:list.append" => ((k_here; k_dflt (refine' t_append ?q9F ?q9N ?q9y ?q9U ?q9z ?_; (case q9F => k_asm); (case q9N => k_asm); (case q9y => walk_at "mine word"); (case q9U => k_upd); (case q9z => walk_at "mine len"); k_whole); intro h' F' N'; (try k_sweep)))
  k_with "call builtin:list.pop" => ((k_here; k_dflt (refine' t_pop ?q9F ?q9N ?q9e ?q9U ?q9z ?_; (case q9F => k_asm); (case q9N => k_asm); (case q9e => first | assumption | (simp_all; done)); (case q9U => k_upd); (case q9z => walk_at "mine len"); k_whole); intro h' v' F' N'; (try k_sweep)))
  trivial
noncomputable def rootB (x : List Nat) : List Nat := if x.take 1 ≠ [47] then [] else if (x.take 2).drop 1 ≠ [47] ∨ (x.take 3).drop 2 = [47] then [47] else x.take 2
noncomputable def rootC (x : List Nat) : List Nat := if x.take 1 ≠ [47] then x else if (x.take 2).drop 1 ≠ [47] ∨ (x.take 3).drop 2 = [47] then x.drop 1 else x.drop 2
noncomputable def normStep (ab : Bool) (acc : List (List Nat)) (c : List Nat) : List (List Nat) :=
  if c = [] ∨ c = [46] then acc else if c ≠ [46, 46] ∨ (ab = false ∧ acc = []) ∨ acc.getLast? = some [46, 46] then acc ++ [c] else acc.dropLast
noncomputable def normAll (x : List Nat) : List Nat := rootB x ++ joinL [47] ((splitL 47 (rootC x)).foldl (normStep (decide (rootB x ≠ []))) [])
noncomputable def normL (x : List Nat) : List Nat := if x = [] then [46] else if normAll x = [] then [46] else normAll x
noncomputable def total (l : List (List Nat)) : Nat := (l.map List.length).sum + l.length
theorem total_app (a b : List (List Nat)) : total (a ++ b) = total a + total b := by
  unfold total; simp; lia
theorem total_split (c : Nat) (l : List Nat) : total (splitL c l) = l.length + 1 := by
  induction l with
  | nil => rfl
  | cons d l ih =>
    unfold splitL
    split
    · unfold total at ih ⊢; simp at ih ⊢; lia
    · have h := splitL_ne c l
      revert ih h
      cases splitL c l with
      | nil => intro _ h; exact absurd rfl h
      | cons p r => intro ih _; unfold total at ih ⊢; simp at ih ⊢; lia
theorem total_drop (a : List (List Nat)) : total a.dropLast ≤ total a := by
  rcases List.eq_nil_or_concat a with rfl | ⟨q, p, rfl⟩
  · exact Nat.le_refl _
  · rw [List.concat_eq_append, List.dropLast_concat, total_app]; lia
theorem total_step (ab : Bool) (acc : List (List Nat)) (c : List Nat) : total (normStep ab acc c) ≤ total acc + total [c] := by
  unfold normStep
  split
  · lia
  · split
    · rw [total_app]; lia
    · have := total_drop acc; lia
theorem total_fold (ab : Bool) (cs : List (List Nat)) : ∀ acc, total (cs.foldl (normStep ab) acc) ≤ total acc + total cs := by
  induction cs with
  | nil => intro acc; exact Nat.le_add_right _ _
  | cons c cs ih =>
    intro acc
    have h1 := ih (normStep ab acc c)
    have h2 := total_step ab acc c
    have h3 : total (c :: cs) = total [c] + total cs := total_app [c] cs
    simp only [List.foldl_cons]
    lia
theorem total_cons (c : List Nat) (l : List (List Nat)) : total (c :: l) = c.length + 1 + total l := by
  unfold total; simp; lia
theorem total_facts (l : List (List Nat)) : l.length ≤ total l ∧ (l.map List.length).sum + l.length * [47].length = total l := by
  unfold total; simp
theorem join_len (sep : List Nat) (h : sep.length ≤ 1) : ∀ l : List (List Nat), (joinL sep l).length ≤ total l
  | [] => Nat.zero_le _
  | [x] => by unfold total joinL; simp
  | x :: y :: r => by
    have := join_len sep h (y :: r)
    rw [total_cons]
    show (x ++ sep ++ joinL sep (y :: r)).length ≤ _
    simp only [List.length_append]
    lia
/-- what the loop over the names holds -/
noncomputable def NormP (ab : Bool) (f : List (List Nat)) (r ts : List (List Nat × Tok)) : Prop := (r.map (·.1)).foldl (normStep ab) (ts.map (·.1)) = f ∧ total (ts.map (·.1)) + total (r.map (·.1)) ≤ 100001
theorem norm_turn {ab : Bool} {q : List Nat × Tok} {r ts ts' : List (List Nat × Tok)} {f : List (List Nat)} (e : NormP ab f (q :: r) ts) (h : normStep ab (ts.map (·.1)) q.1 = ts'.map (·.1)) : NormP ab f r ts' := by
  obtain ⟨e3, e4⟩ := e
  refine ⟨by rw [← e3, ← h]; rfl, ?_⟩
  have h1 := total_step ab (ts.map (·.1)) q.1
  rw [List.map_cons, total_cons] at e4
  have h2 : total [q.1] = q.1.length + 1 := by unfold total; simp
  rw [← h]
  lia
theorem ns_skip {ab : Bool} {acc : List (List Nat)} {c : List Nat} (h : c = [] ∨ c = [46]) : normStep ab acc c = acc := by unfold normStep; rw [if_pos h]
theorem ns_push {ab : Bool} {ts : List (List Nat × Tok)} {c : List Nat} {t : Tok} (h0 : c ≠ []) (h1 : ¬ c = [46]) (h : c ≠ [46, 46] ∨ (ab = false ∧ ts.map (·.1) = []) ∨ (ts.map (·.1)).getLast? = some [46, 46]) : normStep ab (ts.map (·.1)) c = (ts ++ [(c, t)]).map (·.1) := by
  unfold normStep; rw [if_neg (not_or.mpr ⟨h0, h1⟩), if_pos h, List.map_append]; rfl
theorem ns_last {ts q : List (List Nat × Tok)} {p : List Nat × Tok} (e : ts = q ++ [p]) : (ts.map (·.1)).getLast? = some p.1 := by rw [e]; simp
theorem ns_pop {ab : Bool} {ts : List (List Nat × Tok)} {c : List Nat} (h0 : c ≠ []) (h1 : ¬ c = [46]) (h : ¬ (c ≠ [46, 46] ∨ (ab = false ∧ ts.map (·.1) = []) ∨ (ts.map (·.1)).getLast? = some [46, 46])) : normStep ab (ts.map (·.1)) c = (ts.dropLast).map (·.1) := by
  unfold normStep; rw [if_neg (not_or.mpr ⟨h0, h1⟩), if_neg h, List.map_dropLast]
theorem ns_pop1 {ab : Bool} {ts q : List (List Nat × Tok)} {p : List Nat × Tok} {c : List Nat} (h0 : c ≠ []) (h1 : ¬ c = [46]) (h2 : ¬ c ≠ [46, 46]) (e : ts = q ++ [p]) (h : ¬ p.1 = [46, 46]) : normStep ab (ts.map (·.1)) c = (ts.dropLast).map (·.1) := by
  refine ns_pop h0 h1 ?_
  rintro (a | ⟨_, a⟩ | a)
  · exact h2 a
  · rw [e] at a; simp at a
  · rw [ns_last e] at a; exact h (Option.some.inj a)
theorem ns_none {b : List Nat} {ts : List (List Nat × Tok)} {c : List Nat} (h0 : c ≠ []) (h1 : ¬ c = [46]) (h2 : ¬ c ≠ [46, 46]) (hb : b ≠ []) (ht : ¬ ts ≠ []) : normStep (decide (b ≠ [])) (ts.map (·.1)) c = ts.map (·.1) := by
  have ht : ts = [] := Decidable.not_not.mp ht
  subst ht
  refine ns_pop h0 h1 ?_
  rintro (a | ⟨a, _⟩ | a)
  · exact h2 a
  · rw [decide_eq_true hb] at a; cases a
  · cases a
theorem ns_up {b : List Nat} {ts : List (List Nat × Tok)} {c : List Nat} {t : Tok} (h0 : c ≠ []) (h1 : ¬ c = [46]) (hb : ¬ b ≠ []) (ht : ¬ ts ≠ []) : normStep (decide (b ≠ [])) (ts.map (·.1)) c = (ts ++ [(c, t)]).map (·.1) :=
  ns_push h0 h1 (.inr (.inl ⟨decide_eq_false hb, by rw [Decidable.not_not.mp ht]; rfl⟩))
theorem rootL_three (x : List Nat) : rootL x = [[], rootB x, rootC x] := by
  unfold rootL rootB rootC
  (repeat' split) <;> rfl
theorem rootB_len (x : List Nat) : (rootB x).length ≤ 2 := by
  unfold rootB
  (repeat' split) <;> simp
  lia
theorem rootC_len (x : List Nat) : (rootC x).length ≤ x.length := by
  unfold rootC
  (repeat' split) <;> simp
theorem lines_IlD5_1 : True := by
  k_with "call ref" => ((k_here; k_dflt (first
  | (refine' use_ct (c_fspath _ _ _ _ _ _ _ _ _) ?q9k1 ?q9k2 ?q9k3 ?q9k4 ?q9k5 ?q9kK ?q9kd ?q9ku ?_; walk_at "mine use")
  | (refine' use_ctT (c_splitroot _ _ _ _ _ _ _ _ _ ?q9hx) ?q9k1 ?q9k2 ?q9k3 ?q9k4 ?q9k5 ?q9kK ?q9kd ?q9ku ?_; (case q9hx => walk_at "mine len"); ((case q9k1 => k_asm); (case q9k2 => k_asm); (case q9k3 => k_asm); (case q9k4 => k_asm); (case q9k5 => k_asm); (case q9kK => first | exact rfl | assumption); (case q9kd => ktr_room); (case q9ku => ktr_units); intro D9 ps9 h9 tk9 e9 F9 N9 l9; obtain ⟨ta, tb, tc, e8⟩ := three_of (e9.trans (rootL_three _)); subst e8; (try k_lt l9); (try dsimp only [tv, List.map] at N9); (try dsimp only); (try k_fold); (try k_sweep))))))
  trivial
set_option maxHeartbeats 8000000 in
theorem c_normpath (prog : Program) (w : World) (p : Program) (loose : List Str) (mean : ExcName → Option Value) (mg mb : Str → Option Value) (x : List Nat) (t : Tok) (hx : x.length ≤ 100000) :
    Ct prog w p loose mean mg mb 222 3 40 [.str (mkS x) t] (fun t => .str (mkS (normL x)) t) := by
  have hrc := rootC_len x
  have hrb := rootB_len x
  k_with "mine for" =>
    rename Fr _ _ _ _ => Fw
    k_dflt (refine' For_invVF Fw ?k1 ?k2 ?_; (case k1 => exact rfl); (case k2 => exact rfl); k_whole)
  walk_at "mine enter"
  k_steps
  · rename Fr _ _ _ _ => Fw
    rename News _ _ _ _ => Nw
    rename (_ = splitL 47 (rootC x)) => ew
    refine' for_acc (NormP (decide (rootB x ≠ [])) ((splitL 47 (rootC x)).foldl (normStep (decide (rootB x ≠ []))) [])) (ts₀ := []) (n₀ := 0) ?hh Fw Nw ?hm ?h0 ?turn ?done
    case hh => exact rfl
    case hm => k_mem
    case h0 => exact ⟨congrArg (List.foldl _ []) ew, by rw [ew, total_split]; show 0 + _ ≤ _; lia⟩
    case turn =>
      rintro q r ts n₁ it I h tk e3 l2 hit F' N'
      have hqs : ts.length ≤ 100001 := by have h8 := (total_facts (ts.map (·.1))).1; have h9 := e3.2; rw [List.length_map] at h8; lia
      have hql : q.1.length ≤ 100001 := by have := e3.2; rw [List.map_cons, total_cons] at this; lia
      have l3 := l2
      k_lt l2
      k_steps
      all_goals (first | (with_reducible refine norm_turn e3 ?_) | w_report)
      all_goals first
        | exact ns_skip (.inl (Decidable.not_not.mp (by assumption)))
        | exact ns_skip (.inr (by assumption))
        | exact ns_push (by assumption) (by assumption) (.inl (by assumption))
        | exact ns_push (by assumption) (by assumption) (.inr (.inr ((ns_last (by assumption)).trans (congrArg some (by assumption)))))
        | exact ns_pop1 (by assumption) (by assumption) (by assumption) (by assumption) (by assumption)
        | exact ns_none (by assumption) (by assumption) (by assumption) (by assumption) (by assumption)
        | exact ns_up (by assumption) (by assumption) (by assumption) (by assumption)
    case done =>
      rintro ts n₁ v h tk e3 F' N'
      have hqs : ((ts.map (·.1)).map List.length).sum + ts.length * [47].length ≤ 10000000 := by have h8 := (total_facts (ts.map (·.1))).2; have h9 := e3.2; rw [List.length_map] at h8; lia
      have hql : (joinL [47] (ts.map (·.1))).length ≤ 100001 := by have := join_len [47] (Nat.le_refl _) (ts.map (·.1)); have := e3.2; lia
      have hn : rootB x ++ joinL [47] (ts.map (·.1)) = normAll x := by unfold normAll; rw [← e3.1]; rfl
      k_steps
      all_goals walk_at "mine endS"
      all_goals first
        | (show [46] = normL x; unfold normL; rw [← hn]; (repeat' split) <;> first | rfl | (exfalso; contradiction) | exact absurd (by assumption : ¬ rootB x ++ joinL [47] (ts.map (·.1)) ≠ []) (fun e => e (by assumption)))
        | (show rootB x ++ joinL [47] (ts.map (·.1)) = normL x; unfold normL; rw [← hn]; (repeat' split) <;> first | rfl | (exfalso; contradiction) | exact absurd (by assumption : rootB x ++ joinL [47] (ts.map (·.1)) = []) (by assumption))
  all_goals walk_at "mine endS"
  all_goals (show [46] = normL x; unfold normL; simp_all; done)

end Mine
end -- IlD5
section -- IlR8
theorem Mine.none_IlR8 : True := by
  k_with_none
  trivial
open PySem PySem.W PyProof.Rows PySem.Calls PySem.Spec PySem.Builtin PySem.Builtin.Str
namespace Mine
section
variable {prog : Program} {w : World} {A : Around} {E : Value → Shared → Prop} {s : Shared} {h₀ : Heap} {L : Addr} {m : Str → Option Value} {news : List (Addr × Obj)} {l : List Nat} {y : Str} {t u : Tok} {c : Nat} {value slice : Expr}
theorem occ_one (l : List Nat) (c : Nat) : (!(occurrences (mkS l) (mkS [c]) 0 (mkS l).length 1).isEmpty) = decide (c ∈ l) := by
  rw [show mkS [c] = ⟨#[c]⟩ from rfl, StrLaws.found_one, mkS_cps]
theorem t_in {Q : Value → Shared → Prop} (hy : y = mkS [c]) (h : Q (.bool (decide (c ∈ l))) s) : wpAny (model prog w) A (compareOp .In (.str y u) (.str (mkS l) t)) Q E s := by
  subst hy
  refine in_str ?_
  rw [occ_one]
  exact h
theorem t_notin {Q : Value → Shared → Prop} (hy : y = mkS [c]) (h : Q (.bool (decide (c ∉ l))) s) : wpAny (model prog w) A (compareOp .NotIn (.str y u) (.str (mkS l) t)) Q E s := by
  subst hy
  refine notIn_str ?_
  rw [occ_one, show (!decide (c ∈ l)) = decide (c ∉ l) by simp]
  exact h
theorem t_notin' {Q : Value → Shared → Prop} (hy : y = mkS [c]) (hc : c ∉ l) (h : Q (.bool true) s) : wpAny (model prog w) A (compareOp .NotIn (.str y u) (.str (mkS l) t)) Q E s := by
  refine t_notin hy ?_
  rw [decide_eq_true hc]
  exact h
theorem repL_len (c : Nat) (r l : List Nat) : (repL c r l).length ≤ (r.length + 1) * l.length := by
  induction l with
  | nil => exact Nat.zero_le _
  | cons d l ih =>
    have e : repL c r (d :: l) = (if d = c then r else [d]) ++ repL c r l := rfl
    rw [e, List.length_append, List.length_cons, Nat.mul_add]
    have : (if d = c then r else [d]).length ≤ r.length + 1 := by split <;> simp
    lia
theorem t_replace {z : Str} {v : Tok} {r : List Nat} {Q : Value → Shared → Prop} (hu : u ≠ 0) (hv : v ≠ 0) (huv : u ≠ v) (hy : y = mkS [c]) (hz : z = mkS r) (hr : r.length ≤ 6) (hyz : (y == z) = false) (hx : l.length ≤ 1000000)
    (hq : ∀ t' k, Q (.str (mkS (repL c r l)) t') { s with toks := k }) : wpAny (model prog w) A (call (.builtin "str.replace") [.str (mkS l) t, .str y u, .str z v]) Q E s := by
  have hb : (mkS l).length + ((mkS l).length + 1) * z.length ≤ 16777216 := by
    rw [hz, mkS_len, mkS_len]
    have := Nat.mul_le_mul_left (l.length + 1) hr
    lia
  refine SC.replace hu hv huv hyz hb fun t' k => ?_
  rw [show Txt.replace (mkS l) y z = mkS (repL c r l) by rw [hy, hz, show mkS [c] = ⟨#[c]⟩ from rfl, replace_list, mkS_cps, mkS_cps]]
  exact hq t' k
theorem any_mkS (l : List Nat) (zs : List (List Nat)) : ((zs.map mkS).any fun x => x == mkS l) = decide (l ∈ zs) := by
  induction zs with
  | nil => rfl
  | cons a r ih =>
    rw [List.map_cons, List.any_cons, ih, mkS_beq]
    simp [eq_comm]
theorem t_intuple {D : Addr} {vs : List Value} {n : Nat} {ys : List Str} {zs : List (List Nat)} {Q : Value → Shared → Prop} (N : News h₀ L s.heap news) (hm : (D, ({ cls := .type "tuple", data := .seq vs.toArray n } : Obj)) ∈ news)
    (hi : StrsAre vs ys) (hz : ys = zs.map mkS) (h : Q (.bool (decide (l ∈ zs))) s) : wpAny (model prog w) A (compareOp .In (.str (mkS l) u) (.ref D)) Q E s := by
  refine in_tuple_strs (News.isTup N hm) hi ?_
  have : (ys.any fun x => x == mkS l) = decide (l ∈ zs) := by rw [hz]; exact any_mkS l zs
  first
    | (rw [this]; exact h)
    | exact this ▸ h
theorem t_jp_nil {M : Model} {a : List Nat} {Q : Value → Shared → Prop} (ha : a.length ≤ 10000000) (h : ∀ t' k, Q (.str (mkS a) t') { s with toks := k }) : wpAny M A (joinParts (mkS a) []) Q E s :=
  joinParts_nil (h _ _) (by rw [mkS_len]; exact len_line ha)
theorem t_jp_cons {M : Model} {out : Str} {a : List Nat} {x : Sem Value} {rest : List (Sem Value)} {Q : Value → Shared → Prop} (ho : out = mkS a)
    (h : wpAny M A x (fun v s₁ => match v with | .str y _ => ∃ b, y = mkS b ∧ a.length + b.length ≤ 10000000 ∧ wpAny M A (joinParts (mkS (a ++ b)) rest) Q E s₁ | _ => False) E s) : wpAny M A (joinParts out (x :: rest)) Q E s := by
  subst ho
  refine joinParts_cons (wpAny_mono h (fun v s₁ h₁ => ?_) fun _ _ e => e)
  cases v <;> first
    | exact h₁.elim
    | (obtain ⟨b, rfl, hl, h₂⟩ := h₁
       refine ⟨?_, ?_⟩
       · rw [mkS_append, mkS_len, List.length_append]; exact len_line hl
       · rw [mkS_append]; exact h₂)
end
section
variable {prog : Program} {w : World} {A : Around} {E : Value → Shared → Prop} {Q : Flow → Shared → Prop} {s : Shared} {h₀ : Heap} {L : Addr} {m : Str → Option Value} {news : List (Addr × Obj)}
theorem if_joinF (x : Str) (P : Int → Prop) {c : Sem Flow} (_F : Fr h₀ L s.heap m) (_N : News h₀ L s.heap news) (h1 : wpAny (model prog w) A c (JoinInt h₀ L s m x news P) E s)
    (h2 : ∀ j' t' h' tk', Fr h₀ L h' (upd m x (some (.int j' t'))) → News h₀ L h' news → P j' → Q .next { s with heap := h', toks := tk' }) : wpAny (model prog w) A c Q E s := if_join x P h1 h2
end
end Mine
end -- IlR8
section -- IlF0
theorem Mine.none_IlF0 : True := by
  k_with_none
  trivial
open PySem PySem.W PyProof.Rows PySem.Calls PySem.Spec PySem.Builtin PySem.Builtin.Str
namespace Mine
theorem at_of {x : List Nat} {i c d : Nat} (h : x[i]? = some c) (e : [c] = [d]) : x[i]? = some d := by cases e; exact h
/-- where the bracket that opens ahead of i is shut; at or past the end: nowhere -/
noncomputable def closeL (x : List Nat) (i : Nat) : Nat :=
  let k := i + (if x[i]? = some 33 then 2 else 1)
  k + (x.drop k).findIdx (· == 93)
theorem find_hit {x : List Nat} {a j : Nat} (h1 : a ≤ j) (h2 : x[j]? = some 93) (h3 : ∀ q, a ≤ q → q < j → x[q]? ≠ some 93) : a + (x.drop a).findIdx (· == 93) = j := by
  have hj : j < x.length := by
    rcases Nat.lt_or_ge j x.length with q | q
    · exact q
    · rw [List.getElem?_eq_none q] at h2; cases h2
  have : (x.drop a).findIdx (· == 93) = j - a := by
    rw [List.findIdx_eq (by rw [List.length_drop]; lia)]
    refine ⟨?_, fun q hq => ?_⟩
    · rw [List.getElem_drop]
      rw [List.getElem?_eq_getElem hj] at h2
      have e : a + (j - a) = j := by lia
      simp only [e]
      rw [Option.some.inj h2]; rfl
    · rw [List.getElem_drop]
      have h4 := h3 (a + q) (by lia) (by lia)
      rw [List.getElem?_eq_getElem (by lia)] at h4
      simpa using h4
  lia
theorem find_miss {x : List Nat} {a : Nat} (h3 : ∀ q, a ≤ q → x[q]? ≠ some 93) : x.length ≤ a + (x.drop a).findIdx (· == 93) := by
  have : (x.drop a).findIdx (· == 93) = (x.drop a).length := by
    rw [List.findIdx_eq_length]
    intro c hc
    obtain ⟨i, hi⟩ := List.getElem?_of_mem hc
    rw [List.getElem?_drop] at hi
    have := h3 (a + i) (by lia)
    rw [hi] at this
    simpa using this
  rw [this, List.length_drop]
  lia
theorem join_yes {x : List Nat} {i c d : Nat} {j : Int} (h : x[i]? = some c) (e : [c] = [d]) : j + 1 = j + (if x[i]? = some d then 1 else 0) := by rw [if_pos (at_of h e)]
theorem join_no {x : List Nat} {i c d : Nat} {j : Int} (h : x[i]? = some c) (e : ¬ [c] = [d]) : j = j + (if x[i]? = some d then 1 else 0) := by
  rw [if_neg (fun q => e (by rw [h] at q; rw [Option.some.inj q])), Int.add_zero]
theorem join_out {x : List Nat} {d : Nat} {j : Int} (h : ¬ j < x.length) : j = j + (if x[j.toNat]? = some d then 1 else 0) := by
  rw [List.getElem?_eq_none (by lia)]; simp
theorem join_le {x : List Nat} {d : Nat} {j j' : Int} (h0 : 0 ≤ j) (h1 : j ≤ x.length) (e : j' = j + (if x[j.toNat]? = some d then 1 else 0)) : j ≤ j' ∧ j' ≤ x.length := by
  by_cases c : x[j.toNat]? = some d
  · rw [if_pos c] at e
    have : j.toNat < x.length := by
      rcases Nat.lt_or_ge j.toNat x.length with q | q
      · exact q
      · rw [List.getElem?_eq_none q] at c; cases c
    lia
  · rw [if_neg c] at e; lia
/-- the two ifs ahead of the search -/
theorem starts {x : List Nat} {k j1 j2 : Int} (h0 : 0 ≤ k) (e1 : j1 = k + 1 + (if x[(k + 1).toNat]? = some 33 then 1 else 0)) (e2 : j2 = j1 + (if x[j1.toNat]? = some 93 then 1 else 0)) :
    j2.toNat ≤ (k.toNat + 1) + (if x[k.toNat + 1]? = some 33 then 2 else 1) ∧ ∀ q, j2.toNat ≤ q → q < (k.toNat + 1) + (if x[k.toNat + 1]? = some 33 then 2 else 1) → x[q]? ≠ some 93 := by
  have ek : (k + 1).toNat = k.toNat + 1 := by lia
  rw [ek] at e1
  by_cases c : x[k.toNat + 1]? = some 33
  · rw [if_pos c] at e1 ⊢
    have ej : j1.toNat = k.toNat + 2 := by lia
    rw [ej] at e2
    by_cases d : x[k.toNat + 2]? = some 93
    · rw [if_pos d] at e2
      exact ⟨by lia, fun q h1 h2 => by lia⟩
    · rw [if_neg d] at e2
      exact ⟨by lia, fun q h1 h2 => by rw [show q = k.toNat + 2 by lia]; exact d⟩
  · rw [if_neg c] at e1 ⊢
    have ej : j1.toNat = k.toNat + 1 := by lia
    rw [ej] at e2
    by_cases d : x[k.toNat + 1]? = some 93
    · rw [if_pos d] at e2
      exact ⟨by lia, fun q h1 h2 => by lia⟩
    · rw [if_neg d] at e2
      exact ⟨by lia, fun q h1 h2 => by rw [show q = k.toNat + 1 by lia]; exact d⟩
theorem close_hit {x : List Nat} {k j1 j2 j : Int} {c : Nat} (h0 : 0 ≤ k) (e1 : j1 = k + 1 + (if x[(k + 1).toNat]? = some 33 then 1 else 0)) (e2 : j2 = j1 + (if x[j1.toNat]? = some 93 then 1 else 0)) (h0' : 0 ≤ j2)
    (hj : j2 ≤ j ∧ j ≤ x.length ∧ ∀ q : Nat, j2.toNat ≤ q → (q : Int) < j → x[q]? ≠ some 93) (hc : x[j.toNat]? = some c) (e : ¬ [c] ≠ [93]) : closeL x (k.toNat + 1) = j.toNat := by
  have hc := at_of hc (Decidable.not_not.mp e)
  have hs := starts h0 e1 e2
  unfold closeL
  dsimp only
  refine find_hit ?_ hc fun q h1 h2 => hj.2.2 q (by lia) (by lia)
  rcases Nat.lt_or_ge j.toNat ((k.toNat + 1) + (if x[k.toNat + 1]? = some 33 then 2 else 1)) with g | g
  · exact absurd hc (hs.2 _ (by lia) g)
  · exact g
theorem close_miss {x : List Nat} {k j1 j2 j : Int} (h0 : 0 ≤ k) (e1 : j1 = k + 1 + (if x[(k + 1).toNat]? = some 33 then 1 else 0)) (e2 : j2 = j1 + (if x[j1.toNat]? = some 93 then 1 else 0)) (h0' : 0 ≤ j2)
    (hj : j2 ≤ j ∧ j ≤ x.length ∧ ∀ q : Nat, j2.toNat ≤ q → (q : Int) < j → x[q]? ≠ some 93) (hn : ¬ j < x.length) : x.length ≤ closeL x (k.toNat + 1) := by
  have hs := starts h0 e1 e2
  unfold closeL
  dsimp only
  refine find_miss fun q h1 => ?_
  rcases Nat.lt_or_ge q x.length with g | g
  · exact hj.2.2 q (by lia) (by lia)
  · rw [List.getElem?_eq_none g]; simp
theorem loop_step {x : List Nat} {j2 j : Int} {c : Nat} (h0 : 0 ≤ j2) (hj : j2 ≤ j ∧ j ≤ x.length ∧ ∀ q : Nat, j2.toNat ≤ q → (q : Int) < j → x[q]? ≠ some 93) (hn : j < x.length) (hc : x[j.toNat]? = some c) (e : [c] ≠ [93]) :
    j2 ≤ j + 1 ∧ j + 1 ≤ x.length ∧ ∀ q : Nat, j2.toNat ≤ q → (q : Int) < j + 1 → x[q]? ≠ some 93 := by
  refine ⟨by lia, by lia, fun q h1 h2 => ?_⟩
  by_cases g : (q : Int) < j
  · exact hj.2.2 q h1 g
  · have : q = j.toNat := by lia
    subst this
    rw [hc]
    exact fun q => e (by rw [Option.some.inj q])
/-- a bracket's inner signs, bars set -/
noncomputable def setB (s : List Nat) : List Nat :=
  if s = [] then [40, 63, 33, 41] else if s = [33] then [46] else
    [91] ++ (if s[0]? = some 33 then [94] ++ s.drop 1 else if s[0]? = some 94 ∨ s[0]? = some 91 then [92] ++ s else s) ++ [93]
noncomputable def setL (s : List Nat) : List Nat := setB (barL (repL 92 [92, 92] s))
theorem setB_nil {s : List Nat} (h' : ¬ s ≠ []) : setB s = [40, 63, 33, 41] := by rw [Decidable.not_not.mp h']; rfl
theorem setB_one {s : List Nat} (h : s = [33]) : setB s = [46] := by rw [h]; rfl
theorem setB_not {s : List Nat} {c : Nat} (h1 : ¬ s = []) (h2 : ¬ s = [33]) (e : [c] = [33]) (h : s[0]? = some c) : setB s = [] ++ [91] ++ ([94] ++ s.drop 1) ++ [93] := by
  unfold setB; rw [if_neg h1, if_neg h2, if_pos (at_of h e)]; rfl
theorem setB_bar {s : List Nat} {c d : Nat} (h1 : ¬ s = []) (h2 : ¬ s = [33]) (e : ¬ [c] = [33]) (h : s[0]? = some c) (e' : [d] ∈ [[94], [91]]) (h' : s[0]? = some d) : setB s = [] ++ [91] ++ ([92] ++ s) ++ [93] := by
  unfold setB
  rw [if_neg h1, if_neg h2, if_neg (fun q => e (by rw [h] at q; rw [Option.some.inj q])), if_pos (by
    rcases List.mem_cons.mp e' with q | q
    · exact .inl (at_of h' q)
    · rcases List.mem_cons.mp q with q | q
      · exact .inr (at_of h' q)
      · cases q)]; rfl
theorem setB_same {s : List Nat} {c d : Nat} (h1 : ¬ s = []) (h2 : ¬ s = [33]) (e : ¬ [c] = [33]) (h : s[0]? = some c) (e' : ¬ [d] ∈ [[94], [91]]) (h' : s[0]? = some d) : setB s = [] ++ [91] ++ s ++ [93] := by
  unfold setB
  rw [if_neg h1, if_neg h2, if_neg (fun q => e (by rw [h] at q; rw [Option.some.inj q])), if_neg (fun q => e' (by
    rcases q with q | q
    · rw [h'] at q; rw [Option.some.inj q]; exact .head _
    · rw [h'] at q; rw [Option.some.inj q]; exact .tail _ (.head _)))]; rfl
noncomputable def stepL (x : List Nat) (i : Nat) : Option (List Nat) × Nat :=
  match x[i]? with
  | some 42 => (none, i + 1)
  | some 63 => (some [46], i + 1)
  | some 91 => if x.length ≤ closeL x (i + 1) then (some [92, 91], i + 1) else (some (setL ((x.take (closeL x (i + 1))).drop (i + 1))), closeL x (i + 1) + 1)
  | some c => (some (escS c), i + 1)
  | none => (none, i + 1)
noncomputable def addL (acc : List (Option (List Nat))) (p : Option (List Nat)) : List (Option (List Nat)) := if p = none ∧ acc.getLast? = some none then acc else acc ++ [p]
noncomputable def transGo (x : List Nat) : Nat → Nat → List (Option (List Nat)) → List (Option (List Nat))
  | 0, _, acc => acc
  | f + 1, i, acc => if i < x.length then transGo x f (stepL x i).2 (addL acc (stepL x i).1) else acc
noncomputable def transL (x : List Nat) : List (Option (List Nat)) := transGo x x.length 0 []
noncomputable def fsts (ps : List Part) : List (Option (List Nat)) := ps.map (Option.map fun p => p.1)
theorem fsts_app (a b : List Part) : fsts (a ++ b) = fsts a ++ fsts b := List.map_append ..
theorem fsts_snoc (a : List Part) (l : List Nat) (t : Tok) : fsts (a ++ [some (l, t)]) = fsts a ++ [some l] := fsts_app ..
theorem step_star {x : List Nat} {i : Nat} (h : x[i]? = some 42) : stepL x i = (none, i + 1) := by unfold stepL; rw [h]; rfl
theorem step_q {x : List Nat} {i : Nat} (h : x[i]? = some 63) : stepL x i = (some [46], i + 1) := by unfold stepL; rw [h]; rfl
theorem step_miss {x : List Nat} {i : Nat} (h : x[i]? = some 91) (hc : x.length ≤ closeL x (i + 1)) : stepL x i = (some [92, 91], i + 1) := by unfold stepL; rw [h]; simp only [if_pos hc]
theorem step_hit {x : List Nat} {i j : Nat} (h : x[i]? = some 91) (hc : closeL x (i + 1) = j) (hj : j < x.length) : stepL x i = (some (setL ((x.take j).drop (i + 1))), j + 1) := by
  unfold stepL; rw [h]; simp only [hc, if_neg (Nat.not_le.mpr hj)]
theorem step_other {x : List Nat} {i c : Nat} (h : x[i]? = some c) (h1 : ¬ [c] = [42]) (h2 : ¬ [c] = [63]) (h3 : ¬ [c] = [91]) : stepL x i = (some (escS c), i + 1) := by
  unfold stepL
  rw [h]
  have a1 : c ≠ 42 := fun e => h1 (by rw [e])
  have a2 : c ≠ 63 := fun e => h2 (by rw [e])
  have a3 : c ≠ 91 := fun e => h3 (by rw [e])
  split <;> simp_all
theorem add_some {l : List (Option (List Nat))} (p : List Nat) : addL l (some p) = l ++ [some p] := by unfold addL; simp
theorem add_last {acc : List Part} {q : List Part} (e : acc = q ++ [none]) : addL (fsts acc) none = fsts acc := by unfold addL fsts; simp [e]
theorem add_star {acc : List Part} (h : acc = [] ∨ ∃ q p, acc = q ++ [some p]) : addL (fsts acc) none = fsts (acc ++ [none]) := by
  unfold addL fsts
  rcases h with rfl | ⟨q, p, rfl⟩ <;> simp
theorem notin_slice {x : List Nat} (h : 45 ∉ x) (a b : Nat) : 45 ∉ (x.take b).drop a := fun q => h (List.mem_of_mem_take (List.mem_of_mem_drop q))
noncomputable def TrP (x : List Nat) (k : Int) (acc : List Part) : Prop := 0 ≤ k ∧ acc.length ≤ k.toNat ∧ k.toNat ≤ x.length ∧ ∃ f, x.length - k.toNat ≤ f ∧ transGo x f k.toNat (fsts acc) = transL x
theorem tr_end {x : List Nat} {k : Int} {acc : List Part} (h : TrP x k acc) (hk : ¬ k < x.length) : fsts acc = transL x := by
  obtain ⟨h1, h2, h3, f, h4, h5⟩ := h
  rw [← h5]
  cases f with
  | zero => rfl
  | succ f =>
    show _ = (if k.toNat < x.length then _ else _)
    rw [if_neg (by lia)]
theorem tr_step {x : List Nat} {k k' : Int} {acc acc' : List Part} (h : TrP x k acc) (hk : k < x.length) (e : addL (fsts acc) (stepL x k.toNat).1 = fsts acc') (e2 : ((stepL x k.toNat).2 : Int) = k') (hlt : k < k') (hle : k' ≤ x.length) (hl : acc'.length ≤ acc.length + 1) : TrP x k' acc' := by
  obtain ⟨h1, h2, h3, f, h4, h5⟩ := h
  refine ⟨by lia, by lia, by lia, ?_⟩
  cases f with
  | zero => lia
  | succ f =>
    refine ⟨f, by lia, ?_⟩
    rw [← h5]
    show _ = (if k.toNat < x.length then transGo x f (stepL x k.toNat).2 (addL (fsts acc) (stepL x k.toNat).1) else _)
    rw [if_pos (by lia), e, show (stepL x k.toNat).2 = k'.toNat by lia]
noncomputable abbrev starObj : Obj := { cls := .type "object", data := .plain }
/-- the table of the lambda's code -/
noncomputable abbrev tabL (st : Option (Addr × Obj)) : List (Addr × Obj) := match st with
  | none => [(71, tabObj #[])]
  | some q => [(71, tabObj #[rawInt 78, rawInt 39, .ref q.1]), q]
noncomputable def OkTab (q : Str) : Option (Addr × Obj) → Prop
  | none => True
  | some p => ∃ vs t, p.2.data = .fields vs ∧ vs[1]? = some (.str q t)
theorem tab_mem (st : Option (Addr × Obj)) (news : List (Addr × Obj)) : ∃ o, (71, o) ∈ tabL st ++ news := by cases st <;> exact ⟨_, .head _⟩
noncomputable abbrev lamQ : Str := Str.ofString "_translate.<locals>.<lambda>"
section
variable {M : Model} {A : Around} {E : Value → Shared → Prop} {s : Shared} {h₀ : Heap} {L a D b : Addr} {m mg mb : Str → Option Value} {cn : Str} {cs : Scope} {ccd : Value} {cl : List (Str × Addr)} {news : List (Addr × Obj)} {o : Obj}
  {p : Program} {loose : List Str} {mean : ExcName → Option Value} {name qual : Str} {params : Arguments} {body : Expr} {scope : Scope} {pos : Pos} {firstLine : Nat} {clos : List (Str × Addr)} {st : Option (Addr × Obj)} {P : Params}
theorem w_lam {Q : Value → Shared → Prop} (hqual : qual = lamQ) (F : Fr h₀ L s.heap m) (N : News h₀ L s.heap ((b, boundA D) :: (D, o) :: (tabL st ++ news))) (T : Top p loose mean mg mb h₀) (X : (K P).In h₀) (hcd : ccd = .ref 75)
    (hst : OkTab lamQ st) (hD : ∀ q ∈ tabL st ++ news, q.1 ≠ D) (hb : ∀ q ∈ tabL st ++ news, q.1 ≠ b) (hn : ∀ q ∈ news, q.1 ≠ 71) (hp1 : pos.line = 78) (hp2 : pos.col = 39)
    (hcl : closureFor scope (envX cn cs L a ccd cl) = pure clos)
    (h : ∀ f c' oc ctv h' tk, Fr h₀ L h' m → News h₀ L h' ((f, kla_obj name lamQ params body scope clos ((mg "__name__").getD .none) c' ctv) :: (b, boundA D) :: (D, o) :: (tabL (some (c', oc)) ++ news)) →
      OkTab lamQ (some (c', oc)) → (∀ q ∈ tabL (some (c', oc)) ++ news, q.1 ≠ D) → (∀ q ∈ tabL (some (c', oc)) ++ news, q.1 ≠ b) → Q (.ref f) { s with heap := h', toks := tk }) :
    wpAny M A (makeFunction name qual params (.expr body) scope (envX cn cs L a ccd cl) [] [] [] pos firstLine) Q E s := by
  subst hqual
  have C : CodeHd h₀ 75 71 := codeHd_of_K X (by kernel_rfl)
  have hb71 : b ≠ 71 := fun e => by
    obtain ⟨o', ho⟩ := tab_mem st news
    exact hb _ ho e.symm
  have hD71 : D ≠ 71 := fun e => by
    obtain ⟨o', ho⟩ := tab_mem st news
    exact hD _ ho e.symm
  cases st with
  | none =>
    refine kla_nest (P := 71) (ps := #[]) F N T C hcd (.tail hb71 (.tail hD71 (.head hn))) (by exact True.intro) (by rfl) hcl ?_
    intro f c' oc vs t ctv h' tk F' N' d1 d2 l1 l2
    rw [hp1, hp2] at N'
    refine h f c' oc ctv h' tk F' (fun q hq => ?_) ⟨vs, t, d1, d2⟩ (fun q hq => ?_) (fun q hq => ?_)
    · rcases List.mem_cons.mp hq with rfl | hq
      · exact N' _ (.head _)
      rcases List.mem_cons.mp hq with rfl | hq
      · exact N' _ (.tail _ (.tail _ (.head _)))
      rcases List.mem_cons.mp hq with rfl | hq
      · exact N' _ (.tail _ (.tail _ (.tail _ (.head _))))
      rcases List.mem_cons.mp hq with rfl | hq
      · exact N' _ (.tail _ (.tail _ (.tail _ (.tail _ (.head _)))))
      rcases List.mem_cons.mp hq with rfl | hq
      · exact N' _ (.tail _ (.head _))
      · exact N' _ (.tail _ (.tail _ (.tail _ (.tail _ (.tail _ hq)))))
    · rcases List.mem_cons.mp hq with rfl | hq
      · exact hD71.symm
      rcases List.mem_cons.mp hq with rfl | hq
      · exact Nat.ne_of_gt (l1 (D, o) (.tail _ (.head _)))
      · exact hD q (.tail _ hq)
    · rcases List.mem_cons.mp hq with rfl | hq
      · exact hb71.symm
      rcases List.mem_cons.mp hq with rfl | hq
      · exact Nat.ne_of_gt (l1 (b, boundA D) (.head _))
      · exact hb q (.tail _ hq)
  | some q =>
    obtain ⟨c', oc⟩ := q
    refine kla_hit (P := 71) (ps := #[rawInt 78, rawInt 39, .ref c']) (c' := c') F N T C hcd (.tail _ (.tail _ (.head _))) (by simp [TriplesOk, rawInt]) (by simp [codeAmong, rawInt, hp1, hp2]) hcl ?_
    intro f ctv h' tk F' N' l1
    exact h f c' oc ctv h' tk F' N' hst hD hb
end
theorem t_truthy1 {prog : Program} {w : World} {A : Around} {E : Value → Shared → Prop} {s : Shared} {c : Nat} {t : Tok} {Q : Bool → Shared → Prop} (h : ∀ k, Q true { s with toks := k }) : wpAny (model prog w) A (PySem.truthy (.str (mkS [c]) t)) Q E s := by
  refine t_truthy (by simp) fun k => ?_
  rw [decide_eq_true (by simp)]
  exact h k
theorem t_field {M : Model} {A : Around} {E : Value → Shared → Prop} {s : Shared} {l : List Nat} {t : Tok} {Q : Value → Shared → Prop} (hx : l.length ≤ 10000000) (h : ∀ t' tk, Q (.str (mkS l) t') { s with toks := tk }) : wpAny M A (formatField (.str (mkS l) t) Str.empty) Q E s :=
  formatField_str h (by rw [mkS_len]; exact len_line hx)
theorem menu2 : [Str.ofString "^", Str.ofString "["] = [[94], [91]].map mkS := by rw [w_hat, w_open]; rfl
theorem len_pos {l : List Nat} (h : ¬ l = []) : (0 : Int) < l.length := by cases l with | nil => exact absurd rfl h | cons a l => simp
end Mine
end -- IlF0
section -- IlF1
open PySem PySem.W PyProof.Rows PySem.Calls PySem.Spec
namespace Mine
theorem lines_IlF1L_1 : True := by
  k_with_none
  k_with "execs cons" => ((k_here; (try k_gentoks); (with_reducible refine wpAny_execs_cons ?_); (try dsimp only); k_fold))
  k_with "mine sub" => (first | exact fun _ h => h | exact fun _ h => .tail _ h | exact fun _ h => .tail _ (.tail _ h) | exact fun _ h => .tail _ (.tail _ (.tail _ h)) | exact fun _ h => .tail _ (.tail _ (.tail _ (.tail _ h))) | exact fun _ h => .tail _ (.tail _ (.tail _ (.tail _ (.tail _ h)))))
  k_with "mine eq" => (first | rfl | (subst_vars; rfl))
  k_with "mine end" => ((refine' ret_of (by assumption) _ ?q9e1 ?q9e2 ?q9e3 ?q9e4; (case q9e2 => k_asm); (case q9e3 => k_asm); (case q9e4 => walk_at "mine sub"); (case q9e1 => walk_at "mine eq"); (all_goals exact (0 : Nat))))
  k_with "mine endS" => ((refine' ret_of (by assumption) _ (veq ?_) ?q9e2 ?q9e3 ?q9e4; (case q9e2 => k_asm); (case q9e3 => k_asm); (case q9e4 => walk_at "mine sub")))
  k_with "mine lt" => (first | assumption | exact ktn_ltOf (by assumption))
  k_with "mine endT3" => ((refine' ret_ofT (by assumption) ?q9F ?q9N ?q9l ?q9s [(_, _), (_, _), (_, _)] ?q9o ?_; (case q9F => k_asm); (case q9N => k_asm); (case q9l => walk_at "mine lt"); (case q9s => walk_at "mine sub"); (case q9o => ((try simp only [w_nil, w_slash]); rfl))))
  k_with "mine endTT" => ((refine' ret_ofT (by assumption) ?q9F ?q9N ?q9l ?q9s _ ?q9o ?q9e; (case q9F => k_asm); (case q9N => k_asm); (case q9l => walk_at "mine lt"); (case q9s => walk_at "mine sub"); (case q9o => exact rfl); (case q9e => assumption)))
  k_with "mine endT2" => ((refine' ret_ofT (by assumption) ?q9F ?q9N ?q9l ?q9s [(_, _), (_, _)] ?q9o ?_; (case q9F => k_asm); (case q9N => k_asm); (case q9l => walk_at "mine lt"); (case q9s => walk_at "mine sub"); (case q9o => ((try simp only [w_nil, w_slash]); rfl))))
  k_with "mine enterT" => ((unfold CtT; intro dp un gd cn cs a ccd cl outer A₀ base h₀ L m news s Q E B F X N T hk hd hu hret; refine wpAny_call ?_; k_dflt cell_enter))
  k_with "mine enterR" => ((unfold Ct; intro dp un gd cn cs a ccd cl outer A₀ base h₀ L m news s Q E B F X N T hk hd hu hret; refine wpAny_call ?_; k_dflt (refine' kp_rest ?q9k1 ?q9k2 ?q9k3 ?q9k4 ?q9k5 ?q9kA ?q9kF ?q9kK ?q9k6 ?q9k7 ?q9k8 ?q9kV ?q9kP ?q9kG ?q9kB ?_ ?q9c2 ?q9c3 ?q9c4 ?q9c5; (case q9kA => exact rfl); (case q9kF => exact rfl); (case q9kK => assumption); (case q9k1 => k_asm); (case q9k2 => k_asm); (case q9k3 => k_asm); (case q9k4 => k_asm); (case q9k5 => k_asm); (case q9k6 => k_is); (case q9k7 => k_is); (case q9k8 => ktr_room); (case q9kV => kl_lit); (case q9kP => exact rfl); (case q9kG => exact fun _ => rfl); (case q9kB => exact fun _ => locs rfl); (case q9c5 => decide); (case q9c2 => exact rfl); (case q9c3 => exact rfl); (case q9c4 => exact rfl); k_whole); intro D' g' L' h' l1 FG' F' N' B' X' T'; (try k_lt l1); (try dsimp only); (try k_lift B'); (try k_fold)))
  k_with "mine enter" => ((unfold Ct; intro dp un gd cn cs a ccd cl outer A₀ base h₀ L m news s Q E B F X N T hk hd hu hret; refine wpAny_call ?_; k_dflt cell_enter))
  k_with "mine use" => (((case q9k1 => k_asm); (case q9k2 => k_asm); (case q9k3 => k_asm); (case q9k4 => k_asm); (case q9k5 => k_asm); (case q9kK => first | exact rfl | assumption); (case q9kd => ktr_room); (case q9ku => ktr_units); intro t9 h9 tk9 F9 N9; (try dsimp only); (try k_fold); (try k_sweep)))
  k_with "mine useT" => (((case q9k1 => k_asm); (case q9k2 => k_asm); (case q9k3 => k_asm); (case q9k4 => k_asm); (case q9k5 => k_asm); (case q9kK => first | exact rfl | assumption); (case q9kd => ktr_room); (case q9ku => ktr_units); intro D9 ps9 h9 tk9 e9 F9 N9 l9; (try k_lt l9); (try dsimp only); (try k_fold); (try k_sweep)))
  k_with "mine word" => (first | with_reducible exact w_slash | with_reducible exact w_dot | with_reducible exact w_dotdot | with_reducible exact w_nil | with_reducible rfl)
  k_with "mine len" => (first | assumption | lia | (simp only [List.length_take, List.length_drop, List.length_append, List.length_replicate, List.length_cons, List.length_nil]; lia))
  k_with "call builtin:issubclass" => ((k_here; k_dflt (refine' k_issub ?q9k1 ?q9k2 ?_; (case q9k1 => k_asm); (case q9k2 => k_mem); k_whole)))
  k_with "call builtin:str.rfind" => ((k_here; k_dflt (refine' t_rfind ?q9y ?_; (case q9y => walk_at "mine word"); k_whole); intro r' hr' h1' h2'))
  k_with "subscriptTail Name Slice str ref" => ((k_here; (with_reducible show wpAny _ _ (subscriptTail _ (Expr.Slice (some _) none none _) (Value.str (mkS _) _) _) _ _ _); k_dflt (refine' t_slice_from (s := ⟨_, _, _, _, _⟩) ?q9F ?q9N ?q9x ?q9i ?_ ?q9hs ?q9ht; (case q9F => k_asm); (case q9N => k_asm); (case q9x => walk_at "mine len"); (case q9i => walk_at "mine len"); (case q9hs => with_unfolding_all rfl); (case q9ht => intro _; with_unfolding_all rfl); k_whole); intro h' t' k' F' N'; (try k_sweep)))
  k_with "subscriptTail Name Slice str ref" => ((k_here; (with_reducible show wpAny _ _ (subscriptTail _ (Expr.Slice none (some _) none _) (Value.str (mkS _) _) _) _ _ _); k_dflt (refine' t_slice_to (s := ⟨_, _, _, _, _⟩) ?q9F ?q9N ?q9x ?q9i ?_ ?q9hs ?q9ht; (case q9F => k_asm); (case q9N => k_asm); (case q9x => walk_at "mine len"); (case q9i => walk_at "mine len"); (case q9hs => with_unfolding_all rfl); (case q9ht => intro _; with_unfolding_all rfl); k_whole); intro h' t' k' F' N'; (try k_sweep)))
  k_with "subscriptTail Name Slice str ref" => ((k_here; (with_reducible show wpAny _ _ (subscriptTail _ (Expr.Slice (some _) (some _) none _) (Value.str (mkS _) _) _) _ _ _); k_dflt (refine' t_slice_mid (s := ⟨_, _, _, _, _⟩) ?q9F ?q9N ?q9x ?q9i ?q9j ?_ ?q9hs ?q9ht; (case q9F => k_asm); (case q9N => k_asm); (case q9x => walk_at "mine len"); (case q9i => walk_at "mine len"); (case q9j => walk_at "mine len"); (case q9hs => with_unfolding_all rfl); (case q9ht => intro _; with_unfolding_all rfl); k_whole); intro h' t' k' F' N'; (try k_sweep)))
  k_with "truthy str" => ((k_here; (with_reducible show wpAny _ _ (PySem.truthy (Value.str (mkS _) _)) _ _ _); k_dflt (refine' t_truthy ?q9x ?_; (case q9x => walk_at "mine len"); k_whole); intro k'))
  k_with "call builtin:len" => ((k_here; (with_reducible show wpAny _ _ (call (Value.builtin "len") [Value.str (mkS _) _]) _ _ _); k_dflt (refine' t_len ?q9x ?_; (case q9x => walk_at "mine len"); k_whole); intro k'))
  k_with "compareOp NotEq str str" => ((k_here; (with_reducible show wpAny _ _ (compareOp CmpOp.NotEq (Value.str (mkS _) _) _) _ _ _); k_dflt (refine' t_ne ?q9y ?_; (case q9y => walk_at "mine word"); k_whole)))
  k_with "compareOp Eq str str" => ((k_here; (with_reducible show wpAny _ _ (compareOp CmpOp.Eq (Value.str (mkS _) _) _) _ _ _); k_dflt (refine' t_eq ?q9y ?_; (case q9y => walk_at "mine word"); k_whole)))
  k_with "binaryOp Add str str" => ((k_here; k_dflt (refine' t_add ?q9x ?q9y ?q9l ?_; (case q9x => walk_at "mine word"); (case q9y => walk_at "mine word"); (case q9l => walk_at "mine len"); k_whole); intro t' k'))
  k_with "binaryOp Mult str int" => ((k_here; k_dflt (refine' t_mul ?q9y ?q9a ?q9b ?_; (case q9y => walk_at "mine word"); (case q9a => walk_at "mine len"); (case q9b => walk_at "mine len"); k_whole); intro t' k'))
  k_with "call builtin:str.rstrip" => ((k_here; k_dflt (refine' t_rstrip ?q9y ?q9x ?_; (case q9y => walk_at "mine word"); (case q9x => walk_at "mine len"); k_whole); intro t' k'))
  k_with "call builtin:str.lstrip" => ((k_here; k_dflt (refine' t_lstrip ?q9y ?q9x ?_; (case q9y => walk_at "mine word"); (case q9x => walk_at "mine len"); k_whole); intro t' k'))
  k_with "call builtin:str.startswith" => ((k_here; k_dflt (refine' t_starts ?q9y ?_; (case q9y => walk_at "mine word"); k_whole)))
  k_with "call builtin:str.endswith" => ((k_here; k_dflt (refine' t_ends ?q9y ?_; (case q9y => walk_at "mine word"); k_whole)))
  k_with "call builtin:str.split" => ((k_here; k_dflt (refine' t_split ?q9F ?q9N ?q9y ?q9x ?_; (case q9F => k_asm); (case q9N => k_asm); (case q9y => walk_at "mine word"); (case q9x => walk_at "mine len"); k_whole); intro ps' h' k' e' F' N'; (try k_sweep)))
  k_with "call builtin:str.join" => ((k_here; k_dflt (refine' t_join ?q9N ?q9m ?q9y ?q9l ?_; (case q9N => k_asm); (case q9m => k_mem); (case q9y => walk_at "mine word"); (case q9l => walk_at "mine len"); k_whole); intro t' k'))
  k_with "subscriptTail Name Name str int" => ((k_here; (with_reducible show wpAny _ _ (subscriptTail _ _ (Value.str (mkS _) _) _) _ _ _); k_dflt (refine' t_item ?q9x ?q9i ?q9j ?_ ?q9hs ?q9ht; (case q9x => walk_at "mine len"); (case q9i => walk_at "mine len"); (case q9j => walk_at "mine len"); (case q9hs => with_unfolding_all rfl); (case q9ht => intro _; with_unfolding_all rfl); k_whole); intro c' hc'))
  k_with "exec While Compare cons nil" => ((k_here; k_extra "mine while"))
  k_with "IntTurn ret" => (dsimp only [IntTurn])
  k_with "IntTurn next" => ((refine' int_turn_next ?q9F ?q9N ?q9m ?q9P; (case q9F => k_asm); (case q9N => k_asm); (case q9m => k_extra "mine measure"); (case q9P => k_extra "mine state")))
  k_with "exec If" => ((k_here; k_extra "mine if"))
  k_with "exec For Name Name cons nil" => ((k_here; k_extra "mine for"))
  k_with "pyIter ref" => ((k_here; k_extra "mine iter"))
  k_with "LoopStep3 next" => ((k_extra "mine step"))
  k_with "inplaceOp Add str str" => ((k_here; k_dflt (refine' t_iadd ?q9x ?q9y ?q9l ?_; (case q9x => walk_at "mine word"); (case q9y => walk_at "mine word"); (case q9l => walk_at "mine len"); k_whole); intro t' k'))
  k_with "TurnEnd next" => ((refine' acc_next ?q9F ?q9N ?q9m ?q9hlt ?_; (case q9F => k_asm); (case q9N => k_asm); (case q9m => k_mem); (case q9hlt => assumption)))
  k_with "TurnEnd cont" => ((refine' acc_cont ?q9F ?q9N ?q9m ?q9hlt ?_; (case q9F => k_asm); (case q9N => k_asm); (case q9m => k_mem); (case q9hlt => assumption)))
  k_with "truthy ref" => ((k_here; k_dflt (refine' t_truthyL ?q9N ?q9m ?q9z ?_; (case q9N => k_asm); (case q9m => k_mem); (case q9z => walk_at "mine len"); k_whole); intro k'))
  k_with "subscriptTail Name UnaryOp ref int" => ((k_here; k_dflt (refine' t_last ?q9N ?q9m ?q9e ?q9z ?_ ?q9s; (case q9N => k_asm); (case q9m => k_mem); (case q9e => first | assumption | (simp_all; done)); (case q9z => walk_at "mine len"); (case q9s => with_unfolding_all rfl); k_whole); intro q' p' e'))
  k_with "call builtin:list.append" => ((k_here; k_dflt (refine' t_append ?q9F ?q9N ?q9y ?q9U ?q9z ?_; (case q9F => k_asm); (case q9N => k_asm); (case q9y => walk_at "mine word"); (case q9U => k_upd); (case q9z => walk_at "mine len"); k_whole); intro h' F' N'; (try k_sweep)))
  k_with "call builtin:list.pop" => ((k_here; k_dflt (refine' t_pop ?q9F ?q9N ?q9e ?q9U ?q9z ?_; (case q9F => k_asm); (case q9N => k_asm); (case q9e => first | assumption | (simp_all; done)); (case q9U => k_upd); (case q9z => walk_at "mine len"); k_whole); intro h' v' F' N'; (try k_sweep)))
  trivial
theorem pv_ref (S : Addr) : Value.ref S = pv1 S none := rfl
theorem pv_str (S : Addr) (l : List Nat) (t : Tok) : Value.str (mkS l) t = pv1 S (some (l, t)) := rfl
theorem pv_lit (S : Addr) {y : Str} {l : List Nat} (e : y = mkS l) (t : Tok) : Value.str y t = pv1 S (some (l, t)) := by rw [e]; rfl
theorem lines_IlF1_1 : True := by
  k_with "execs cons" => ((k_here; k_extra "mine toks"))
  k_with "truthy str" => ((k_here; (with_reducible show wpAny _ _ (PySem.truthy (Value.str (mkS [_]) _)) _ _ _); k_dflt (refine t_truthy1 ?_); intro k'))
  k_with "formatField str" => ((k_here; k_dflt (refine' t_field ?q9x ?_; (case q9x => walk_at "mine len"); k_whole); intro t' k'))
  k_with "exec If" => ((k_here; refine wpAny_If ?_))
  k_with "exec If BoolOp cons nil" => ((k_here; k_extra "mine join"))
  k_with "getMethod ref" => ((k_here; k_dflt (refine' gm_sub ?q9h ?_; (case q9h => exact Fr.keep (by k_asm) _ _ ((by assumption : Frag.In _ _) 50 rePat (by k_is))); k_whole)))
  k_with "getMethod ref" => ((k_here; k_dflt (refine' gm_group ?q9N ?q9m ?_; (case q9N => k_asm); (case q9m => k_mem); k_whole)))
  k_with "call builtin:re.Match.group" => ((k_here; k_dflt (refine' w_group ?q9N ?q9f ?q9T ?q9j ?q9x ?_; (case q9N => k_asm); (case q9f => k_mem); (case q9T => k_mem); (case q9j => assumption); (case q9x => walk_at "mine len"); k_whole); intro t' k'))
  k_with "eval Lambda" => ((k_here; k_extra "mine lam"))
  k_with "call builtin:re.Pattern.sub" => ((k_here; k_extra "mine sub"))
  k_with "mine word" => (first | with_reducible exact w_slash | with_reducible exact w_dot | with_reducible exact w_dotdot | with_reducible exact w_nil | with_reducible exact w_star | with_reducible exact w_quest | with_reducible exact w_open | with_reducible exact w_bang | with_reducible exact w_shut | with_reducible exact w_hyph | with_reducible exact w_bsl | with_reducible exact w_bsl2 | with_reducible exact w_never | with_reducible exact w_hat | with_reducible exact w_bopen | with_reducible rfl)
  k_with "getAttr ref true" => ((k_here; k_dflt (refine' w_bound ?q9F ?q9N ?q9m ?_; (case q9F => k_asm); (case q9N => k_asm); (case q9m => k_mem); k_whole); intro b' h' k' F' N' l1; (try k_lt l1)))
  k_with "getAttr ref" => ((k_here; k_dflt (refine' w_bound ?q9F ?q9N ?q9m ?_; (case q9F => k_asm); (case q9N => k_asm); (case q9m => k_mem); k_whole); intro b' h' k' F' N' l1; (try k_lt l1)))
  k_with "exec While BoolOp cons nil" => ((k_here; k_extra "mine while"))
  trivial
theorem allNe_of_lt {d : Addr} {l : List (Addr × Obj)} (h : ∀ p ∈ l, p.1 < d) : ∀ p ∈ l, p.1 ≠ d := fun p hp => Nat.ne_of_lt (h p hp)
theorem allNe_of_and {d : Addr} {l : List (Addr × Obj)} {P : Prop} (h : P ∧ AllLt d l) : ∀ p ∈ l, p.1 ≠ d := fun p hp => Nat.ne_of_lt (ktn_ltOf h.2 p hp)
local macro_rules | `(tactic| k_all) => `(tactic| first | assumption | exact allNe_of_lt (by assumption) | exact allNe_of_and (by assumption))
theorem lines_IlF1_2 : True := by
  k_with "StandsA" => (exact standsA (by k_asm) (by k_mem))
  k_with "callWith ref" => ((k_here; k_dflt (refine' callWith_boundA ?q9N ?q9m ?_; (case q9N => k_asm); (case q9m => k_mem); k_whole)))
  k_with "And" => (((with_reducible show StandsA _ _ _ ∧ _); refine ⟨standsA (by k_asm) (by k_mem), ?_⟩; try dsimp only [List.nil_append, List.cons_append]))
  k_with "compareOp NotIn str str" => ((k_here; k_dflt (refine' t_notin' ?q9y ?q9c ?_; (case q9y => walk_at "mine word"); (case q9c => k_extra "mine notin"); k_whole)))
  k_with "call builtin:str.replace" => ((k_here; k_dflt (refine' t_replace ?q9hu ?q9hv ?q9huv ?q9y ?q9z ?q9r ?q9yz ?q9x ?_; (case q9y => walk_at "mine word"); (case q9z => walk_at "mine word"); (case q9hu => exact Nat.succ_ne_zero _); (case q9hv => exact Nat.succ_ne_zero _); (case q9huv => exact Nat.ne_of_lt (Nat.lt_succ_self _)); (case q9r => decide); (case q9yz => decide +kernel); (case q9x => walk_at "mine len"); k_whole); intro t' k'))
  k_with "joinParts" => ((k_here; k_dflt (first
  | (refine' t_jp_cons ?q9o ?_; (case q9o => first | exact w_nil | with_reducible rfl | rfl); k_whole)
  | (refine' t_jp_nil ?q9x ?_; (case q9x => walk_at "mine len"); k_whole; intro t' k'))))
  k_with "Exists" => ((k_dflt (refine' ⟨_, ?q9y, ?q9l, ?_⟩; (case q9y => walk_at "mine word"); (case q9l => walk_at "mine len"); k_whole)))
  k_with "compareOp In str ref" => ((k_here; k_dflt (refine' t_intuple ?q9N ?q9m ?q9i ?q9z ?_; (case q9N => k_asm); (case q9m => k_mem); (case q9i => kde_strs); (case q9z => k_extra "mine menu"); k_whole)))
  k_with "truthy ref" => ((k_here; k_dflt (refine' p_truthy ?q9N ?q9m ?q9z ?_; (case q9N => k_asm); (case q9m => k_mem); (case q9z => walk_at "mine len"); k_whole); intro k'))
  k_with "subscriptTail Name UnaryOp ref int" => ((k_here; k_dflt (refine' p_last ?q9N ?q9m ?q9e ?q9z ?_ ?q9s; (case q9N => k_asm); (case q9m => k_mem); (case q9e => first | assumption | (simp_all; done)); (case q9z => walk_at "mine len"); (case q9s => with_unfolding_all rfl); k_whole); intro q' p' e'; rcases p' with _ | p'; all_goals dsimp only [pv1]))
  k_with "compareOp IsNot str ref" => ((k_here; refine wpAny_isNot_other (by rfl) (by intro x; cases x) ?_))
  k_with "compareOp IsNot ref ref" => ((k_here; refine wpAny_isNot_self (by rfl) ?_))
  k_with "subscriptTail Name Constant str int" => ((k_here; (with_reducible show wpAny _ _ (subscriptTail _ _ (Value.str (mkS _) _) _) _ _ _); k_dflt (refine' t_item ?q9x ?q9i ?q9j ?_ ?q9hs ?q9ht; (case q9x => walk_at "mine len"); (case q9i => walk_at "mine len"); (case q9j => k_extra "mine first"); (case q9hs => with_unfolding_all rfl); (case q9ht => intro _; with_unfolding_all rfl); k_whole); intro c' hc'))
  k_with "JoinInt" => ((k_here; k_dflt (first | (refine' join_set ?q9F ?q9N ?_; (case q9F => k_asm); (case q9N => k_asm)) | (refine' join_same ?q9F ?q9m ?q9N ?_; (case q9F => k_asm); (case q9N => k_asm); (case q9m => exact rfl)))))
  k_with "call ref" => ((k_here; k_dflt (first
  | (refine' use_ct (c_escape _ _ _ _ _ _ _ _ _) ?q9k1 ?q9k2 ?q9k3 ?q9k4 ?q9k5 ?q9kK ?q9kd ?q9ku ?_; walk_at "mine use")
  | (refine' w_callA ?q9F ?q9N ?q9b ?q9m ?q9x ?q9U ?q9z ?_; (case q9F => k_asm); (case q9N => k_asm); (case q9b => k_mem); (case q9m => k_mem); (case q9x => first | with_reducible exact pv_ref _ | with_reducible exact pv_str _ _ _ | (refine' pv_lit _ ?q9w _; (case q9w => walk_at "mine word"))); (case q9U => k_upd); (case q9z => walk_at "mine len"); k_whole; intro h' F' N'; (try k_sweep)))))
  trivial
noncomputable def RetP (h₀ : Heap) (L : Addr) (m : Str → Option Value) (news : List (Addr × Obj)) (s : Shared) (Q : Value → Shared → Prop) (S : Addr) (rs : List (Option (List Nat))) : Prop :=
  ∀ (D : Addr) (ps : List Part) (n : Nat) (st : Option (Addr × Obj)) (h' : Heap) (tk' : Nat), fsts ps = rs → OkTab lamQ st → Fr h₀ L h' m → News h₀ L h' ((D, lstP S ps n) :: (tabL st ++ news)) → Q (.ref D) { s with heap := h', toks := tk' }
noncomputable def CtP (prog : Program) (w : World) (p : Program) (loose : List Str) (mean : ExcName → Option Value) (mg mb : Str → Option Value) (f : Addr) (d u : Nat) (vs : List Value) (S : Addr) (rs : List (Option (List Nat))) : Prop :=
  ∀ (dp un : Nat) (gd : Option (List Code)) (cn : Str) (cs : Scope) (a : Addr) (ccd : Value) (cl : List (Str × Addr)) (outer : List Env) (A₀ : Around) (base h₀ : Heap) (L : Addr) (m : Str → Option Value) (news : List (Addr × Obj)) (s : Shared) (Q E : Value → Shared → Prop) (st : Option (Addr × Obj)),
    Below A₀ base outer h₀ → Fr h₀ L s.heap m → (K w.params).In h₀ → News h₀ L s.heap (tabL st ++ news) → OkTab lamQ st → (∀ q ∈ news, q.1 ≠ 71) → Top p loose mean mg mb h₀ → cs.kind = .function → dp + d < recursionLimit → un + u < cLine → RetP h₀ L m news s Q S rs →
      wpAny (model prog w) (ktrTop dp un gd cn cs L a ccd cl outer) (call (.ref f) vs) Q E s
theorem lines_IlF1_3 : True := by
  k_with "mine enterP" => ((unfold CtP; intro dp un gd cn cs a ccd cl outer A₀ base h₀ L m news s Q E st B F X N hst hn71 T hk hd hu hret; refine wpAny_call ?_; k_dflt cell_enter))
  trivial
/-- the ledger of the loop -/
noncomputable def TrL (b D S : Addr) (news : List (Addr × Obj)) (acc : List Part) (n₁ : List (Addr × Obj)) : Prop := ∃ n st, OkTab lamQ st ∧ n₁ = (b, boundA D) :: (D, lstP S acc n) :: (tabL st ++ news) ∧ (∀ q ∈ tabL st ++ news, q.1 ≠ D) ∧ (∀ q ∈ tabL st ++ news, q.1 ≠ b)
section
variable {prog : Program} {w : World} {A : Around} {E : Value → Shared → Prop} {Q : Flow → Shared → Prop} {s : Shared} {env : Env} {h₀ : Heap} {L : Addr} {m : Str → Option Value} {news : List (Addr × Obj)}
theorem while_trans {b D S : Addr} {q : Addr × Obj} {x : List Nat} {st : Option (Addr × Obj)} {test : Expr} {body : List Stmt} {pos : Pos} {t₀ : Tok}
    (F : Fr h₀ L s.heap m) (N : News h₀ L s.heap (q :: (b, boundA D) :: (D, listOf #[] 0) :: (tabL st ++ news))) (hst : OkTab lamQ st) (hD : ∀ q ∈ tabL st ++ news, q.1 ≠ D) (hb : ∀ q ∈ tabL st ++ news, q.1 ≠ b)
    (hm : m (Str.ofString "i") = some (.int 0 t₀))
    (turn : ∀ k t acc n st' vc vj vu h₁ tk₁, TrP x k acc → OkTab lamQ st' → (∀ q ∈ tabL st' ++ news, q.1 ≠ D) → (∀ q ∈ tabL st' ++ news, q.1 ≠ b) →
      Fr h₀ L h₁ (upd (upd (upd (upd m (Str.ofString "stuff") vu) (Str.ofString "j") vj) (Str.ofString "c") vc) (Str.ofString "i") (some (.int k t))) → News h₀ L h₁ ((b, boundA D) :: (D, lstP S acc n) :: (tabL st' ++ news)) →
      wpAny (model prog w) A (isTrue test env (eval test env)) (fun b' s₂ => if b' = true then wpAny (model prog w) A (execs body env) (PTurn h₀ L s m (Str.ofString "i") (Str.ofString "c") (Str.ofString "j") (Str.ofString "stuff") (TrL b D S news) (TrP x) (fun k => x.length - k.toNat) k Q) E s₂ else Q .next s₂) E { s with heap := h₁, toks := tk₁ })
    (hE : PassesOwn (model prog w) A env E) :
    wpAny (model prog w) A (exec (.While test body [] pos) env) Q E s := by
  refine while_parts (Str.ofString "i") (Str.ofString "c") (Str.ofString "j") (Str.ofString "stuff") (by decide) (by decide) (by decide) (by decide) (by decide) (by decide) (TrL b D S news) (TrP x) (fun k => x.length - k.toNat) (acc₀ := []) F (news_tail N) ⟨0, st, hst, rfl, hD, hb⟩ hm ⟨Int.le_refl _, Nat.le_refl _, Nat.zero_le _, x.length, Nat.le_refl _, rfl⟩ ?_ hE
  rintro k t acc n₁ vc vj vu h₁ tk₁ hP ⟨n, st', hst', rfl, h1, h2⟩ F₁ N₁
  exact turn k t acc n st' vc vj vu h₁ tk₁ hP hst' h1 h2 F₁ N₁
theorem trans_next {b D S : Addr} {x : List Nat} {k k' : Int} {h' : Heap} {tk n : Nat} {t' : Tok} {m' : Str → Option Value} {acc acc' : List Part} {st : Option (Addr × Obj)}
    (F : Fr h₀ L h' m') (N : News h₀ L h' ((b, boundA D) :: (D, lstP S acc' n) :: (tabL st ++ news))) (hst : OkTab lamQ st) (hD : ∀ q ∈ tabL st ++ news, q.1 ≠ D) (hb : ∀ q ∈ tabL st ++ news, q.1 ≠ b)
    (hm : ∀ y, y ≠ Str.ofString "i" → y ≠ Str.ofString "c" → y ≠ Str.ofString "j" → y ≠ Str.ofString "stuff" → m' y = m y) (hi : m' (Str.ofString "i") = some (.int k' t'))
    (h : TrP x k acc) (hk : k < x.length) (e : addL (fsts acc) (stepL x k.toNat).1 = fsts acc') (e2 : ((stepL x k.toNat).2 : Int) = k') (hlt : k < k') (hle : k' ≤ x.length) (hl : acc'.length ≤ acc.length + 1) :
    PTurn h₀ L s m (Str.ofString "i") (Str.ofString "c") (Str.ofString "j") (Str.ofString "stuff") (TrL b D S news) (TrP x) (fun k => x.length - k.toNat) k Q .next { s with heap := h', toks := tk } := by
  have h1 := h.1
  exact pturn_next F N ⟨n, st, hst, rfl, hD, hb⟩ hm hi (by show x.length - k'.toNat < x.length - k.toNat; lia) (tr_step h hk e e2 hlt hle hl)
end
theorem lines_IlF1_4 : True := by
  k_with "IntTurn cons ret" => (dsimp only [IntTurn])
  k_with "IntTurn cons next" => ((refine' int_turn_next ?q9F ?q9N ?q9m ?q9P; (case q9F => k_asm); (case q9N => k_asm); (case q9m => k_extra "mine measure"); (case q9P => k_extra "mine state")))
  k_with "PTurn next" => ((k_here; k_dflt (refine' trans_next ?q9F ?q9N ?q9hst ?q9hD ?q9hb ?q9hm ?q9hi (by assumption) ?q9hk ?_ ?_ ?_ ?_ ?_; (case q9F => k_asm); (case q9N => first | k_asm | exact news_tail (by k_asm)); (case q9hst => assumption); (case q9hD => assumption); (case q9hb => assumption); (case q9hm => (intro y h1 h2 h3 h4; (repeat (first | (with_reducible exact rfl) | refine ite_off (by assumption) ?_)); (try exact rfl))); (case q9hi => exact rfl); (case q9hk => lia))))
  trivial
theorem min_le9 {a n c A B : Nat} (h : n ≤ A) (hb : A ≤ B) : min a n - c ≤ B := Nat.le_trans (Nat.sub_le _ _) (Nat.le_trans (Nat.min_le_right _ _) (Nat.le_trans h hb))
theorem min_le2 {a n c A B : Nat} (h : n ≤ A) (hb : 2 * A ≤ B) : 2 * (min a n - c) ≤ B := Nat.le_trans (Nat.mul_le_mul_left 2 (min_le9 h (Nat.le_refl _))) hb
theorem rep_slice {x : List Nat} (hx : x.length ≤ 100000) (a b : Nat) : (repL 92 [92, 92] ((x.take b).drop a)).length ≤ 1000000 := by
  have := repL_len 92 [92, 92] ((x.take b).drop a)
  simp only [List.length_take, List.length_drop, List.length_cons, List.length_nil] at this
  lia
theorem bar_slice {y : List Nat} (h : y.length ≤ 1000000) : (barL y).length ≤ 2000000 := by
  have := barL_len y
  lia
theorem lines_IlF1_5 : True := by
  k_with "mine len" => ((simp only [List.length_drop, List.length_take]; exact min_le9 hx (by decide)))
  trivial
set_option maxHeartbeats 8000000 in
theorem c_trans (prog : Program) (w : World) (p : Program) (loose : List Str) (mean : ExcName → Option Value) (mg mb : Str → Option Value) (x : List Nat) (S : Addr) (t u : Tok) (hx : x.length ≤ 100000) (hy : 45 ∉ x) :
    CtP prog w p loose mean mg mb 76 4 64 [.str (mkS x) t, .ref S, .str (mkS [46]) u] S (transL x) := by
  walk_at "mine enterP"
  k_with "mine while" => refine Stop.go ?_
  k_steps
  · refine Stop.of ?_
    rename Fr _ _ _ _ => Fw
    rename News _ _ _ _ => Nw
    rename OkTab _ _ => hst
    refine' while_trans (S := S) (x := x) Fw Nw hst ?hD ?hb ?hm ?turn ?E
    case hD => k_all
    case hb => k_all
    case hm => exact rfl
    case E => with_unfolding_all passes_own
    case turn =>
      rintro k tk acc n st' vc vj vu h₁ tk₁ hP hst' hD' hb' F₁ N₁
      have hk0 := hP.1
      have hk1 := hP.2.1
      have hk2 := hP.2.2.1
      have hk3 : acc.length ≤ 100000 := by lia
      clear Fw Nw hst
      k_with "mine join" => refine Stop.go ?_
      k_with "mine while" => refine Stop.go ?_
      k_steps
      · refine Stop.of ?_
        refine wpAny_If ?_
        k_steps
        all_goals (have hc : x[k.toNat]? = some 42 := at_of (by assumption) (by assumption))
        all_goals (try rw [step_star hc])
        all_goals (first | lia | (simp only [List.length_append, List.length_cons, List.length_nil]; lia) | exact add_last (by assumption) | (refine add_star ?_; first | exact .inr ⟨_, _, by assumption⟩ | exact .inl (Decidable.not_not.mp (by assumption)) | exact .inl (by assumption)))
      all_goals (try (first | (have hc := step_q (x := x) (i := k.toNat) (at_of (by assumption) (by assumption)); rw [hc]) | (have hc := step_other (x := x) (i := k.toNat) (by assumption) (by assumption) (by assumption) (by assumption); rw [hc])))
      all_goals (try (first | lia | (simp only [List.length_append, List.length_cons, List.length_nil]; lia) | (rw [add_some, fsts_app]; rfl)))
      · refine Stop.of ?_
        rename Fr _ _ _ _ => Fj
        rename News _ _ _ _ => Nj
        have hc := at_of (x := x) (i := k.toNat) (by assumption) (by assumption)
        refine if_joinF (Str.ofString "j") (fun j' => j' = k + 1 + (if x[(k + 1).toNat]? = some 33 then 1 else 0)) Fj Nj ?_ ?_
        · refine wpAny_If ?_
          k_steps
          all_goals (first | exact join_yes (by assumption) (by assumption) | exact join_no (by assumption) (by assumption) | exact join_out (by assumption))
        · intro j1 t1 h1 tk1 F1 N1 hj1
          clear Fj Nj
          have hj1' := join_le (x := x) (by lia) (by lia) hj1
          k_steps
          refine Stop.of ?_
          refine if_joinF (Str.ofString "j") (fun j' => j' = j1 + (if x[j1.toNat]? = some 93 then 1 else 0)) F1 N1 ?_ ?_
          · refine wpAny_If ?_
            k_steps
            all_goals (first | exact join_yes (by assumption) (by assumption) | exact join_no (by assumption) (by assumption) | exact join_out (by assumption))
          · intro j2 t2 h2 tk2 F2 N2 hj2
            clear F1 N1
            have hj2' := join_le (x := x) (by lia) hj1'.2 hj2
            have hj20 : 0 ≤ j2 := by lia
            k_steps
            refine Stop.of ?_
            refine' while_int (Str.ofString "j") (fun j => j2 ≤ j ∧ j ≤ x.length ∧ ∀ q : Nat, j2.toNat ≤ q → (q : Int) < j → x[q]? ≠ some 93) (fun j => (x.length - j).toNat) F2 N2 rfl ?P ?turn ?E
            case P => exact ⟨Int.le_refl _, hj2'.2, fun q _ _ => by lia⟩
            case E => with_unfolding_all passes_own
            case turn =>
              intro j t4 h4 tk4 hj F4 N4
              have hj4 := hj.1
              have hj5 := hj.2.1
              clear F2 N2
              k_with "mine toks" => (with_reducible refine wpAny_execs_cons ?_)
              k_with "mine notin" => exact notin_slice hy _ _
              k_with "mine measure" => lia
              k_with "mine state" => exact loop_step hj20 hj (by assumption) (by assumption) (by assumption)
              k_with "mine lam" => refine Stop.go ?_
              k_steps
              all_goals (try (first | lia | (simp only [List.length_append, List.length_cons, List.length_nil]; lia)))
              all_goals (try (have hcl := close_miss hk0 hj1 hj2 hj20 hj (by assumption); rw [step_miss hc hcl]))
              all_goals (try (first | lia | (rw [add_some, fsts_snoc])))
              refine Stop.of ?_
              have hcl := close_hit hk0 hj1 hj2 hj20 hj (by assumption) (by assumption)
              have hjx : j.toNat < x.length := by lia
              have hstp := step_hit hc hcl hjx
              have ek : (k + 1).toNat = k.toNat + 1 := by lia
              k_with "mine toks" => k_gentoks
              rename Fr _ _ _ _ => F5
              rename News _ _ _ _ => N5
              refine kla_eval (by rfl) ?_
              refine w_lam (by first | exact (by decide +kernel : (Str.ofString "_translate" ++ Str.ofString ".<locals>." ++ Str.ofString "<lambda>" : Str) = lamQ) | kernel_rfl) F5 N5 (by assumption) (by assumption : Frag.In _ _) rfl hst' hD' hb' (by assumption) rfl rfl rfl ?_
              intro f5 c5 oc5 ctv5 h6 tk6 F6 N6 hst6 hD6 hb6
              clear F5 N5
              have hst7 : ∃ (vs : Array Value) (t : Tok), oc5.data = .fields vs ∧ vs[1]? = some (Value.str lamQ t) := hst6
              obtain ⟨vs7, t7, d71, d72⟩ := hst7
              k_with "mine sub" => refine Stop.go ?_
              k_steps
              refine Stop.of ?_
              rename Fr _ _ _ _ => F7
              rename News _ _ _ _ => N7
              k_with "mine toks" => k_gentoks
              have hlen := rep_slice hx (k + 1).toNat j.toNat
              have hlen2 := bar_slice hlen
              have X7 : Frag.In _ _ := (by assumption : Frag.In _ _)
              refine w_sub F7 N7 hlen (X7 50 rePat (by k_is)) (X7 49 reTup (by k_is)) (N7.get (by k_mem)) rfl ?_ ?_
              · intro j6 h8 tk8 f8 T8 P8 ps8 c8 hj8 hs8 l81 l82 l83 F8 N8
                clear F7 N7 X7
                k_dflt (refine wpAny_call ?_; (refine' kla_code ?k1 ?k2 ?k3 ?k4 ?k5 ?kA ?kF ?kK ?k6 ?k7 ?k8 ?k9 ?kB ?_ ?c2 ?c3 ?c4 ?c5; (case kA => exact rfl); (case kF => exact rfl); (case kK => exact rfl); (case k1 => k_asm); (case k2 => k_asm); (case k3 => k_asm); (case k4 => k_asm); (case k5 => k_asm); (case k6 => k_mem); (case k7 => exact codeRec_news (by k_asm) (by k_mem) d71 d72); (case k8 => first | ktr_room | ((try simp only [depth_under_make, depth_under_kw, depth_in1, depth_deeper, depth_caller]); lia)); (case k9 => exact rfl); (case c5 => decide); (case kB => exact locs rfl); (case c2 => exact rfl); (case c3 => exact rfl); (case c4 => exact rfl); k_whole; intro g' L' h' FG' F' N' B' X' T'; (try dsimp only); (try k_lift B'); (try k_fold)))
                k_steps
                exact ⟨_, _, _, rfl, rfl, by k_asm, by k_asm⟩
              · intro t9 h9 tk9 F9 N9
                clear F7 N7 X7
                replace N9 := news_tail N9
                k_with "mine menu" => exact menu2
                k_with "mine first" => exact len_pos (by assumption)
                k_steps
                all_goals (try (first | lia | (simp only [List.length_append, List.length_cons, List.length_nil]; lia)))
                all_goals (rw [hstp])
                all_goals (first | (dsimp only; lia) | (rw [add_some, fsts_snoc]; refine congrArg (fun z => fsts acc ++ [some z]) ?_; unfold setL; rw [← ek]; first | exact setB_nil (by assumption) | exact setB_one (by assumption) | exact setB_not (by assumption) (by assumption) (by assumption) (by assumption) | exact setB_bar (by assumption) (by assumption) (by assumption) (by assumption) (by assumption) (by assumption) | exact setB_same (by assumption) (by assumption) (by assumption) (by assumption) (by assumption) (by assumption) | (trace_state; fail "no way")))
      · exact (by assumption : RetP _ _ _ _ _ _ _ _) _ acc n st' _ _ (tr_end hP (by assumption)) hst' (by assumption) (news_tail (by assumption))

end Mine
end -- IlF1
section -- IlG0
theorem Mine.none_IlG0 : True := by
  k_with_none
  trivial
open PySem PySem.W PyProof.Rows PySem.Calls PySem.Spec PySem.Builtin PySem.Builtin.Str
namespace Mine
/-- the text behind a star: the run so far, then the parts -/
noncomputable def goT : List Nat → List (Option (List Nat)) → List Nat
  | run, some a :: r => goT (run ++ a) r
  | run, none :: r => [40, 63, 62, 46, 42, 63] ++ run ++ [41] ++ goT [] r
  | run, [] => [46, 42] ++ run
/-- the text of the parts -/
noncomputable def leadT : List (Option (List Nat)) → List Nat
  | some a :: r => a ++ leadT r
  | none :: r => goT [] r
  | [] => []
noncomputable abbrev flat (ts : List (List Nat × Tok)) : List Nat := (ts.map (·.1)).flatten
theorem flat_app (a b : List (List Nat × Tok)) : flat (a ++ b) = flat a ++ flat b := by simp [flat]
theorem goT_len : ∀ (l : List (Option (List Nat))) (run : List Nat), run.length ≤ (goT run l).length
  | [], run => by unfold goT; simp only [List.length_append, List.length_cons, List.length_nil]; lia
  | some a :: r, run => by
    have := goT_len r (run ++ a)
    rw [List.length_append] at this
    unfold goT; lia
  | none :: r, run => by unfold goT; simp only [List.length_append, List.length_cons, List.length_nil]; lia
theorem joinL_nil : ∀ l : List (List Nat), joinL [] l = l.flatten
  | [] => rfl
  | [x] => by simp [joinL]
  | x :: y :: r => by
    have := joinL_nil (y :: r)
    show x ++ [] ++ joinL [] (y :: r) = _
    rw [this]; simp
theorem sum_flat (l : List (List Nat)) : (l.map List.length).sum = l.flatten.length := by rw [List.length_flatten]
theorem drop_some {l : List (Option (List Nat))} {k : Nat} {p : Option (List Nat)} (h : l[k]? = some p) : l.drop k = p :: l.drop (k + 1) := by
  have hk : k < l.length := by
    rcases Nat.lt_or_ge k l.length with q | q
    · exact q
    · rw [List.getElem?_eq_none q] at h; cases h
  rw [List.drop_eq_getElem_cons hk]
  rw [List.getElem?_eq_getElem hk] at h
  rw [Option.some.inj h]
theorem fsts_at {ps : List Part} {k : Nat} {p : Part} (h : ps[k]? = some p) : (fsts ps)[k]? = some (p.map (·.1)) := by
  unfold fsts
  rw [List.getElem?_map, h]; rfl
theorem fsts_len (ps : List Part) : (fsts ps).length = ps.length := List.length_map ..
/-- no two stars side by side -/
noncomputable def NoAdj (l : List (Option (List Nat))) : Prop := ∀ k, l[k]? = some none → l[k + 1]? ≠ some none
/-- the first loop -/
noncomputable def J1 (ps : List Part) (k : Int) (ts : List (List Nat × Tok)) : Prop := 0 ≤ k ∧ k ≤ ps.length ∧ (ts.length : Int) ≤ 2 * k ∧ flat ts ++ leadT ((fsts ps).drop k.toNat) = leadT (fsts ps)
theorem J1.start (ps : List Part) : J1 ps 0 [] := ⟨Int.le_refl _, by lia, by simp, by simp [flat]⟩
theorem J1.step {ps : List Part} {k : Int} {ts : List (List Nat × Tok)} {a : List Nat} {t t' : Tok} (h : J1 ps k ts) (hk : k < ps.length) (hp : ps[k.toNat]? = some (some (a, t))) : J1 ps (k + 1) (ts ++ [(a, t')]) := by
  obtain ⟨h0, h1, h2, h3⟩ := h
  refine ⟨by lia, by lia, by simp only [List.length_append, List.length_cons, List.length_nil]; lia, ?_⟩
  rw [← h3, drop_some (fsts_at hp), show (k + 1).toNat = k.toNat + 1 by lia, flat_app]
  show flat ts ++ flat [(a, t')] ++ leadT _ = flat ts ++ (a ++ leadT _)
  simp [flat]
/-- the outer loop -/
noncomputable def J2 (ps : List Part) (k : Int) (ts : List (List Nat × Tok)) : Prop := J1 ps k ts ∧ (k < ps.length → ps[k.toNat]? = some none)
theorem J2.of1 {ps : List Part} {k : Int} {ts : List (List Nat × Tok)} (h : J1 ps k ts) (hk : ¬ k < ps.length ∨ ps[k.toNat]? = some none) : J2 ps k ts := ⟨h, fun q => hk.elim (fun n => absurd q n) id⟩
theorem J1.done {ps : List Part} {k : Int} {ts : List (List Nat × Tok)} (h : J1 ps k ts) (hk : ¬ k < ps.length) : flat ts = leadT (fsts ps) := by
  obtain ⟨h0, h1, h2, h3⟩ := h
  rw [← h3, List.drop_eq_nil_of_le (by rw [fsts_len]; lia)]
  simp [leadT]
theorem J1.star {ps : List Part} {k : Int} {ts : List (List Nat × Tok)} (h : J1 ps k ts) (hp : ps[k.toNat]? = some none) : flat ts ++ goT [] ((fsts ps).drop (k.toNat + 1)) = leadT (fsts ps) := by
  rw [← h.2.2.2, drop_some (fsts_at hp)]; rfl
theorem J2.last {ps : List Part} {k : Int} {ts : List (List Nat × Tok)} {t : Tok} (h : J1 ps k ts) (hp : ps[k.toNat]? = some none) (hn : k + 1 = ps.length) : flat (ts ++ [([46, 42], t)]) = leadT (fsts ps) := by
  have h0 := h.1
  rw [← h.star hp, List.drop_eq_nil_of_le (by rw [fsts_len]; lia), flat_app]
  simp [flat, goT]
/-- the inner loop -/
noncomputable def J3 (ps : List Part) (k1 : Int) (j : Int) (fs : List (List Nat × Tok)) : Prop := k1 ≤ j ∧ j ≤ ps.length ∧ (fs.length : Int) ≤ j ∧ goT (flat fs) ((fsts ps).drop j.toNat) = goT [] ((fsts ps).drop k1.toNat)
theorem J3.start {ps : List Part} {k1 : Int} (h0 : 0 ≤ k1) (h : k1 ≤ ps.length) : J3 ps k1 k1 [] := ⟨Int.le_refl _, h, by simpa using h0, by simp [flat]⟩
theorem J3.step {ps : List Part} {k1 j : Int} {fs : List (List Nat × Tok)} {a : List Nat} {t t' : Tok} (h0 : 0 ≤ k1) (h : J3 ps k1 j fs) (hk : j < ps.length) (hp : ps[j.toNat]? = some (some (a, t))) : J3 ps k1 (j + 1) (fs ++ [(a, t')]) := by
  obtain ⟨h1, h2, h3, h4⟩ := h
  refine ⟨by lia, by lia, by simp only [List.length_append, List.length_cons, List.length_nil]; lia, ?_⟩
  rw [← h4, drop_some (fsts_at hp), show (j + 1).toNat = j.toNat + 1 by lia, flat_app]
  show _ = goT (flat fs ++ a) _
  congr 1
  simp [flat]
theorem J3.lenB {ps : List Part} {k k1 j : Int} {ts fs : List (List Nat × Tok)} (h : J1 ps k ts) (hp : ps[k.toNat]? = some none) (e : k1 = k + 1) (g : J3 ps k1 j fs) : (flat fs).length ≤ (leadT (fsts ps)).length := by
  have h0 := h.1
  rw [← h.star hp, List.length_append]
  have := goT_len ((fsts ps).drop j.toNat) (flat fs)
  rw [g.2.2.2, show k1.toNat = k.toNat + 1 by lia] at this
  lia
theorem J1.lenB {ps : List Part} {k : Int} {ts : List (List Nat × Tok)} (h : J1 ps k ts) : (flat ts).length ≤ (leadT (fsts ps)).length := by
  rw [← h.2.2.2, List.length_append]; lia
theorem J2.end {ps : List Part} {k k1 j : Int} {ts fs : List (List Nat × Tok)} {t t' : Tok} (h : J1 ps k ts) (hp : ps[k.toNat]? = some none) (e : k1 = k + 1) (g : J3 ps k1 j fs) (hj : ¬ j < ps.length) : J2 ps j (ts ++ [([46, 42], t)] ++ [(flat fs, t')]) := by
  have h0 := h.1
  have h2 := h.2.2.1
  have g1 := g.1
  have g2 := g.2.1
  refine ⟨⟨by lia, g2, by simp only [List.length_append, List.length_cons, List.length_nil]; lia, ?_⟩, fun q => absurd q hj⟩
  rw [← h.star hp]
  have g4 := g.2.2.2
  have hn : (fsts ps).drop j.toNat = [] := List.drop_eq_nil_of_le (by rw [fsts_len]; lia)
  rw [hn, show k1.toNat = k.toNat + 1 by lia] at g4
  rw [hn, ← g4, flat_app, flat_app]
  simp [flat, goT, leadT]
theorem J2.mid {ps : List Part} {k k1 j : Int} {ts fs : List (List Nat × Tok)} {t : Tok} (h : J1 ps k ts) (hp : ps[k.toNat]? = some none) (e : k1 = k + 1) (g : J3 ps k1 j fs) (hj : ps[j.toNat]? = some none) : J2 ps j (ts ++ [([] ++ [40, 63, 62, 46, 42, 63] ++ flat fs ++ [41], t)]) := by
  have h0 := h.1
  have h2 := h.2.2.1
  have g1 := g.1
  have g2 := g.2.1
  refine ⟨⟨by lia, g2, by simp only [List.length_append, List.length_cons, List.length_nil]; lia, ?_⟩, fun _ => hj⟩
  rw [← h.star hp]
  have g4 := g.2.2.2
  rw [drop_some (fsts_at hj), show k1.toNat = k.toNat + 1 by lia] at g4
  rw [drop_some (fsts_at hj), ← g4, flat_app]
  simp [flat, goT, leadT]
theorem no_adj {ps : List Part} {k : Int} (h : NoAdj (fsts ps)) (h0 : 0 ≤ k) (hp : ps[k.toNat]? = some none) (hq : ps[(k + 1).toNat]? = some none) : False :=
  h k.toNat (fsts_at hp) (by rw [show k.toNat + 1 = (k + 1).toNat by lia]; exact fsts_at hq)
/-- how a turn of a while over i, c and a list of texts ends -/
noncomputable def TTurn (h₀ : Heap) (L : Addr) (s : Shared) (m : Str → Option Value) (i c : Str) (f : List (List Nat × Tok) → Nat → List (Addr × Obj)) (P : Int → List (List Nat × Tok) → Prop) (meas : Int → Nat) (k : Int) (Q : Flow → Shared → Prop) (fl : Flow) (s₃ : Shared) : Prop :=
  match fl with
  | .next | .cont => ∃ h' tk m' k' t' acc' n', s₃ = { s with heap := h', toks := tk } ∧ Fr h₀ L h' m' ∧ (∀ y, y ≠ i → y ≠ c → m' y = m y) ∧ m' i = some (.int k' t') ∧ News h₀ L h' (f acc' n') ∧ meas k' < meas k ∧ P k' acc'
  | .brk => Q .next s₃
  | .ret v => Q (.ret v) s₃
theorem upd2 {m m' : Str → Option Value} {a b : Str} (h : ∀ y, y ≠ a → y ≠ b → m' y = m y) : m' = upd (upd m b (m' b)) a (m' a) := by
  funext y
  unfold upd
  by_cases h1 : y = a
  · subst h1; rw [if_pos rfl]
  · by_cases h2 : y = b
    · subst h2; rw [if_neg h1, if_pos rfl]
    · rw [if_neg h1, if_neg h2, h y h1 h2]
section
variable {prog : Program} {w : World} {A : Around} {E : Value → Shared → Prop} {s : Shared} {env : Env} {h₀ : Heap} {L : Addr} {m : Str → Option Value} {news : List (Addr × Obj)}
theorem tturn_next {Q : Flow → Shared → Prop} {i c : Str} {f : List (List Nat × Tok) → Nat → List (Addr × Obj)} {P : Int → List (List Nat × Tok) → Prop} {meas : Int → Nat} {k k' : Int} {h' : Heap} {tk : Nat} {t' : Tok} {m' : Str → Option Value} {n' : Nat} {acc' : List (List Nat × Tok)} {news' : List (Addr × Obj)}
    (F : Fr h₀ L h' m') (N : News h₀ L h' news') (e : news' = f acc' n') (hm : ∀ y, y ≠ i → y ≠ c → m' y = m y) (hi : m' i = some (.int k' t')) (hlt : meas k' < meas k) (hP : P k' acc') :
    TTurn h₀ L s m i c f P meas k Q .next { s with heap := h', toks := tk } := by subst e; exact ⟨h', tk, m', k', t', acc', n', rfl, F, hm, hi, N, hlt, hP⟩
theorem while_txt {Q : Flow → Shared → Prop} (i c : Str) (f : List (List Nat × Tok) → Nat → List (Addr × Obj)) (P : Int → List (List Nat × Tok) → Prop) (meas : Int → Nat) {test : Expr} {body : List Stmt} {pos : Pos} {k₀ : Int} {t₀ : Tok} {acc₀ : List (List Nat × Tok)} {n₀ : Nat}
    (F : Fr h₀ L s.heap m) (N : News h₀ L s.heap news) (e : news = f acc₀ n₀) (hm : m i = some (.int k₀ t₀)) (hP : P k₀ acc₀)
    (turn : ∀ k t acc n vc h₁ tk₁, P k acc → Fr h₀ L h₁ (upd (upd m c vc) i (some (.int k t))) → News h₀ L h₁ (f acc n) →
      wpAny (model prog w) A (isTrue test env (eval test env)) (fun b s₂ => if b = true then wpAny (model prog w) A (execs body env) (TTurn h₀ L s m i c f P meas k Q) E s₂ else Q .next s₂) E { s with heap := h₁, toks := tk₁ })
    (hE : PassesOwn (model prog w) A env E) :
    wpAny (model prog w) A (exec (.While test body [] pos) env) Q E s := by
  subst e
  refine While_inv2 (fun n m₁ n₁ => ∃ k t acc c', (∀ y, y ≠ i → y ≠ c → m₁ y = m y) ∧ m₁ i = some (.int k t) ∧ n₁ = f acc c' ∧ P k acc ∧ n = meas k) (n₀ := meas k₀) F N ⟨k₀, t₀, acc₀, n₀, fun _ _ _ => rfl, hm, rfl, hP, rfl⟩ ?_ hE
  rintro n m₁ n₁ h₁ tk₁ F₁ N₁ ⟨k, t, acc, c', e1, e2, rfl, e4, rfl⟩
  have em := upd2 (m := m) (m' := m₁) e1
  rw [e2] at em
  rw [em] at F₁
  refine wpAny_mono (turn k t acc c' _ h₁ tk₁ e4 F₁ N₁) (fun b s₂ hb => ?_) fun _ _ x => x
  cases b with
  | false => simpa using hb
  | true =>
    simp only [if_true] at hb ⊢
    refine wpAny_mono hb (fun fl s₃ h₃ => ?_) fun _ _ x => x
    cases fl with
    | next =>
      obtain ⟨h', tk, m', k', t', acc', n', e0, a, b, c', d, e, f⟩ := h₃
      exact ⟨h', tk, m', _, _, e0, a, d, e, k', t', acc', n', b, c', rfl, f, rfl⟩
    | cont =>
      obtain ⟨h', tk, m', k', t', acc', n', e0, a, b, c', d, e, f⟩ := h₃
      exact ⟨h', tk, m', _, _, e0, a, d, e, k', t', acc', n', b, c', rfl, f, rfl⟩
    | brk => exact h₃
    | ret v => exact h₃
/-- how a while over i, c and a list of texts ends -/
noncomputable def TJoin (h₀ : Heap) (L : Addr) (s : Shared) (m : Str → Option Value) (i c : Str) (f : List (List Nat × Tok) → Nat → List (Addr × Obj)) (R : Int → List (List Nat × Tok) → Prop) (fl : Flow) (s' : Shared) : Prop :=
  fl = .next ∧ ∃ h' tk' m' k t acc n, s' = { s with heap := h', toks := tk' } ∧ Fr h₀ L h' m' ∧ (∀ y, y ≠ i → y ≠ c → m' y = m y) ∧ m' i = some (.int k t) ∧ News h₀ L h' (f acc n) ∧ R k acc
theorem tjoin {i c : Str} {f : List (List Nat × Tok) → Nat → List (Addr × Obj)} {R : Int → List (List Nat × Tok) → Prop} {k : Int} {t : Tok} {h' : Heap} {tk : Nat} {m' : Str → Option Value} {n' : Nat} {acc' : List (List Nat × Tok)} {news' : List (Addr × Obj)}
    (F : Fr h₀ L h' m') (N : News h₀ L h' news') (e : news' = f acc' n') (hm : ∀ y, y ≠ i → y ≠ c → m' y = m y) (hi : m' i = some (.int k t)) (hP : R k acc') : TJoin h₀ L s m i c f R .next { s with heap := h', toks := tk } := by
  subst e; exact ⟨rfl, h', tk, m', k, t, acc', n', rfl, F, hm, hi, N, hP⟩
theorem while_txtJ {Q : Flow → Shared → Prop} (i c : Str) (f : List (List Nat × Tok) → Nat → List (Addr × Obj)) (P R : Int → List (List Nat × Tok) → Prop) (meas : Int → Nat) {test : Expr} {body : List Stmt} {pos : Pos} {k₀ : Int} {t₀ : Tok} {acc₀ : List (List Nat × Tok)} {n₀ : Nat}
    (F : Fr h₀ L s.heap m) (N : News h₀ L s.heap news) (e : news = f acc₀ n₀) (hm : m i = some (.int k₀ t₀)) (hP : P k₀ acc₀)
    (turn : ∀ k t acc n vc h₁ tk₁, P k acc → Fr h₀ L h₁ (upd (upd m c vc) i (some (.int k t))) → News h₀ L h₁ (f acc n) →
      wpAny (model prog w) A (isTrue test env (eval test env)) (fun b s₂ => if b = true then wpAny (model prog w) A (execs body env) (TTurn h₀ L s m i c f P meas k (TJoin h₀ L s m i c f R)) E s₂ else TJoin h₀ L s m i c f R .next s₂) E { s with heap := h₁, toks := tk₁ })
    (h2 : ∀ k t acc n vc h' tk', Fr h₀ L h' (upd (upd m c vc) i (some (.int k t))) → News h₀ L h' (f acc n) → R k acc → Q .next { s with heap := h', toks := tk' })
    (hE : PassesOwn (model prog w) A env E) :
    wpAny (model prog w) A (exec (.While test body [] pos) env) Q E s := by
  refine wpAny_mono (while_txt i c f P meas F N e hm hP turn hE) (fun fl s' h => ?_) fun _ _ x => x
  obtain ⟨rfl, h', tk', m', k, t, acc, n, rfl, F', a, b, N', hR⟩ := h
  have em := upd2 (m := m) (m' := m') a
  rw [b] at em
  rw [em] at F'
  exact h2 k t acc n _ h' tk' F' N' hR
theorem while_j {Q : Flow → Shared → Prop} {b R : Addr} {ts₀ : List (List Nat × Tok)} {n₀ : Nat} (c : Str) (P S : Int → List (List Nat × Tok) → Prop) (meas : Int → Nat) {test : Expr} {body : List Stmt} {pos : Pos} {k₀ : Int} {t₀ : Tok}
    (F : Fr h₀ L s.heap m) (N : News h₀ L s.heap ((b, boundA R) :: (R, lstT ts₀ n₀) :: news)) (hm : m (Str.ofString "i") = some (.int k₀ t₀)) (hP : P k₀ ts₀)
    (turn : ∀ k t acc n vc h₁ tk₁, P k acc → Fr h₀ L h₁ (upd (upd m c vc) (Str.ofString "i") (some (.int k t))) → News h₀ L h₁ ((b, boundA R) :: (R, lstT acc n) :: news) →
      wpAny (model prog w) A (isTrue test env (eval test env)) (fun b' s₂ => if b' = true then wpAny (model prog w) A (execs body env) (TTurn h₀ L s m (Str.ofString "i") c (fun ts n => (b, boundA R) :: (R, lstT ts n) :: news) P meas k (TJoin h₀ L s m (Str.ofString "i") c (fun ts n => (b, boundA R) :: (R, lstT ts n) :: news) S)) E s₂ else TJoin h₀ L s m (Str.ofString "i") c (fun ts n => (b, boundA R) :: (R, lstT ts n) :: news) S .next s₂) E { s with heap := h₁, toks := tk₁ })
    (h2 : ∀ k t acc n vc h' tk', Fr h₀ L h' (upd (upd m c vc) (Str.ofString "i") (some (.int k t))) → News h₀ L h' ((b, boundA R) :: (R, lstT acc n) :: news) → S k acc → Q .next { s with heap := h', toks := tk' })
    (hE : PassesOwn (model prog w) A env E) :
    wpAny (model prog w) A (exec (.While test body [] pos) env) Q E s :=
  while_txtJ (Str.ofString "i") c (fun ts n => (b, boundA R) :: (R, lstT ts n) :: news) P S meas F N rfl hm hP turn h2 hE
theorem while_k {Q : Flow → Shared → Prop} {R : Addr} {ts₀ : List (List Nat × Tok)} {n₀ : Nat} (c : Str) (P S : Int → List (List Nat × Tok) → Prop) (meas : Int → Nat) {test : Expr} {body : List Stmt} {pos : Pos} {k₀ : Int} {t₀ : Tok}
    (F : Fr h₀ L s.heap m) (N : News h₀ L s.heap ((R, lstT ts₀ n₀) :: news)) (hm : m (Str.ofString "i") = some (.int k₀ t₀)) (hP : P k₀ ts₀)
    (turn : ∀ k t acc n vc h₁ tk₁, P k acc → Fr h₀ L h₁ (upd (upd m c vc) (Str.ofString "i") (some (.int k t))) → News h₀ L h₁ ((R, lstT acc n) :: news) →
      wpAny (model prog w) A (isTrue test env (eval test env)) (fun b' s₂ => if b' = true then wpAny (model prog w) A (execs body env) (TTurn h₀ L s m (Str.ofString "i") c (fun ts n => (R, lstT ts n) :: news) P meas k (TJoin h₀ L s m (Str.ofString "i") c (fun ts n => (R, lstT ts n) :: news) S)) E s₂ else TJoin h₀ L s m (Str.ofString "i") c (fun ts n => (R, lstT ts n) :: news) S .next s₂) E { s with heap := h₁, toks := tk₁ })
    (h2 : ∀ k t acc n vc h' tk', Fr h₀ L h' (upd (upd m c vc) (Str.ofString "i") (some (.int k t))) → News h₀ L h' ((R, lstT acc n) :: news) → S k acc → Q .next { s with heap := h', toks := tk' })
    (hE : PassesOwn (model prog w) A env E) :
    wpAny (model prog w) A (exec (.While test body [] pos) env) Q E s :=
  while_txtJ (Str.ofString "i") c (fun ts n => (R, lstT ts n) :: news) P S meas F N rfl hm hP turn h2 hE
theorem t_join0 {D : Addr} {n : Nat} {ts : List (List Nat × Tok)} {y : Str} {u : Tok} {Q : Value → Shared → Prop} (N : News h₀ L s.heap news) (hm : (D, lstT ts n) ∈ news) (hy : y = mkS [])
    (hl : (flat ts).length ≤ 10000000) (h : ∀ t' k, Q (.str (mkS (flat ts)) t') { s with toks := k }) :
    wpAny (model prog w) A (call (.builtin "str.join") [.str y u, .ref D]) Q E s := by
  refine t_join N hm hy ?_ fun t' k => ?_
  · rw [sum_flat]; simpa using hl
  · rw [joinL_nil]; exact h t' k
theorem lstT_eq (S : Addr) (ts : List (List Nat × Tok)) (n : Nat) : lstT ts n = lstP S (ts.map some) n := by
  have : tv ts = pv S (ts.map some) := by unfold tv pv; rw [List.map_map]; rfl
  unfold lstT lstP
  rw [this]
theorem w_callT {D b : Addr} {ts : List (List Nat × Tok)} {n : Nat} {x : Str} {l : List Nat} {t : Tok} {news' : List (Addr × Obj)} {Q : Value → Shared → Prop} (F : Fr h₀ L s.heap m) (N : News h₀ L s.heap news) (hb : (b, boundA D) ∈ news) (hm : (D, lstT ts n) ∈ news) (hx : x = mkS l)
    (U : Upd D (lstT ts n) (lstT (ts ++ [(l, t)]) (n + 1)) news news') (hz : ts.length ≤ 10000000) (h : ∀ h', Fr h₀ L h' m → News h₀ L h' news' → Q .none { s with heap := h' }) :
    wpAny (model prog w) A (call (.ref b) [.str x t]) Q E s := by
  rw [lstT_eq 0] at U hm
  rw [lstT_eq 0, List.map_append] at U
  exact w_callA (S := 0) (p := some (l, t)) F N hb hm (by rw [hx]; rfl) U (by simpa using hz) h
theorem p_itemK {D S : Addr} {ps : List Part} {n : Nat} {k : Int} {t : Tok} {p : Part} {value slice : Expr} {Q : Value → Shared → Prop}
    (N : News h₀ L s.heap news) (hm : (D, lstP S ps n) ∈ news) (h0 : 0 ≤ k) (hk : ps[k.toNat]? = some p) (hz : ps.length ≤ 10000000)
    (h : Q (pv1 S p) s) (hs : subscripted slice false (.ref D) (.int k t) = operate [.ref D, .int k t] (getItem (.ref D) (.int k t))) :
    wpAny (model prog w) A (subscriptTail value slice (.ref D) (.int k t)) Q E s := by
  have hlt : k.toNat < ps.length := by
    rcases Nat.lt_or_ge k.toNat ps.length with q | q
    · exact q
    · rw [List.getElem?_eq_none q] at hk; cases hk
  exact p_item N hm h0 (by lia) hz (fun p' e => by rw [hk] at e; cases e; exact h) hs
theorem p_len {D S : Addr} {ps : List Part} {n : Nat} {Q : Value → Shared → Prop} (N : News h₀ L s.heap news) (hm : (D, lstP S ps n) ∈ news) (hz : ps.length ≤ 10000000) (h : ∀ k, Q (.int (ps.length : Nat) k) { s with toks := k + 1 }) :
    wpAny (model prog w) A (call (.builtin "len") [.ref D]) Q E s := by
  have e : (pv S ps).toArray.size = ps.length := by rw [List.size_toArray, pv_length]
  refine PyProof.Rows.len_list (N.isList hm) (by show (((pv S ps).toArray.size : Nat) : Int) < _; rw [e]; lia) ?_
  have := h (s.toks + 1)
  rw [← e] at this
  exact this
end
/-- a contract over ledgers that bear more -/
noncomputable abbrev CtN (prog : Program) (w : World) (p : Program) (loose : List Str) (mean : ExcName → Option Value) (mg mb : Str → Option Value) (H : List (Addr × Obj) → Prop) (f : Addr) (d u : Nat) (vs : List Value) (R : Tok → Value) : Prop :=
  ∀ (dp un : Nat) (gd : Option (List Code)) (cn : Str) (cs : Scope) (a : Addr) (ccd : Value) (cl : List (Str × Addr)) (outer : List Env) (A₀ : Around) (base h₀ : Heap) (L : Addr) (m : Str → Option Value) (news : List (Addr × Obj)) (s : Shared) (Q E : Value → Shared → Prop),
    Below A₀ base outer h₀ → Fr h₀ L s.heap m → (K w.params).In h₀ → News h₀ L s.heap news → H news → Top p loose mean mg mb h₀ → cs.kind = .function →
    dp + d < recursionLimit → un + u < cLine → Ret h₀ L m news s Q R →
    wpAny (model prog w) (ktrTop dp un gd cn cs L a ccd cl outer) (call (.ref f) vs) Q E s
end Mine
end -- IlG0
section -- IlF2
open PySem PySem.W PyProof.Rows PySem.Calls PySem.Spec
namespace Mine
theorem lines_IlF2L_1 : True := by
  k_with_none
  k_with "mine sub" => (first | exact fun _ h => h | exact fun _ h => .tail _ h | exact fun _ h => .tail _ (.tail _ h) | exact fun _ h => .tail _ (.tail _ (.tail _ h)) | exact fun _ h => .tail _ (.tail _ (.tail _ (.tail _ h))) | exact fun _ h => .tail _ (.tail _ (.tail _ (.tail _ (.tail _ h)))))
  k_with "mine eq" => (first | rfl | (subst_vars; rfl))
  k_with "mine end" => ((refine' ret_of (by assumption) _ ?q9e1 ?q9e2 ?q9e3 ?q9e4; (case q9e2 => k_asm); (case q9e3 => k_asm); (case q9e4 => walk_at "mine sub"); (case q9e1 => walk_at "mine eq"); (all_goals exact (0 : Nat))))
  k_with "mine endS" => ((refine' ret_of (by assumption) _ (veq ?_) ?q9e2 ?q9e3 ?q9e4; (case q9e2 => k_asm); (case q9e3 => k_asm); (case q9e4 => walk_at "mine sub")))
  k_with "mine lt" => (first | assumption | exact ktn_ltOf (by assumption))
  k_with "mine endT3" => ((refine' ret_ofT (by assumption) ?q9F ?q9N ?q9l ?q9s [(_, _), (_, _), (_, _)] ?q9o ?_; (case q9F => k_asm); (case q9N => k_asm); (case q9l => walk_at "mine lt"); (case q9s => walk_at "mine sub"); (case q9o => ((try simp only [w_nil, w_slash]); rfl))))
  k_with "mine endTT" => ((refine' ret_ofT (by assumption) ?q9F ?q9N ?q9l ?q9s _ ?q9o ?q9e; (case q9F => k_asm); (case q9N => k_asm); (case q9l => walk_at "mine lt"); (case q9s => walk_at "mine sub"); (case q9o => exact rfl); (case q9e => assumption)))
  k_with "mine endT2" => ((refine' ret_ofT (by assumption) ?q9F ?q9N ?q9l ?q9s [(_, _), (_, _)] ?q9o ?_; (case q9F => k_asm); (case q9N => k_asm); (case q9l => walk_at "mine lt"); (case q9s => walk_at "mine sub"); (case q9o => ((try simp only [w_nil, w_slash]); rfl))))
  k_with "mine enterT" => ((unfold CtT; intro dp un gd cn cs a ccd cl outer A₀ base h₀ L m news s Q E B F X N T hk hd hu hret; refine wpAny_call ?_; k_dflt cell_enter))
  k_with "mine enterR" => ((unfold Ct; intro dp un gd cn cs a ccd cl outer A₀ base h₀ L m news s Q E B F X N T hk hd hu hret; refine wpAny_call ?_; k_dflt (refine' kp_rest ?q9k1 ?q9k2 ?q9k3 ?q9k4 ?q9k5 ?q9kA ?q9kF ?q9kK ?q9k6 ?q9k7 ?q9k8 ?q9kV ?q9kP ?q9kG ?q9kB ?_ ?q9c2 ?q9c3 ?q9c4 ?q9c5; (case q9kA => exact rfl); (case q9kF => exact rfl); (case q9kK => assumption); (case q9k1 => k_asm); (case q9k2 => k_asm); (case q9k3 => k_asm); (case q9k4 => k_asm); (case q9k5 => k_asm); (case q9k6 => k_is); (case q9k7 => k_is); (case q9k8 => ktr_room); (case q9kV => kl_lit); (case q9kP => exact rfl); (case q9kG => exact fun _ => rfl); (case q9kB => exact fun _ => locs rfl); (case q9c5 => decide); (case q9c2 => exact rfl); (case q9c3 => exact rfl); (case q9c4 => exact rfl); k_whole); intro D' g' L' h' l1 FG' F' N' B' X' T'; (try k_lt l1); (try dsimp only); (try k_lift B'); (try k_fold)))
  k_with "mine enter" => ((unfold Ct; intro dp un gd cn cs a ccd cl outer A₀ base h₀ L m news s Q E B F X N T hk hd hu hret; refine wpAny_call ?_; k_dflt cell_enter))
  k_with "mine use" => (((case q9k1 => k_asm); (case q9k2 => k_asm); (case q9k3 => k_asm); (case q9k4 => k_asm); (case q9k5 => k_asm); (case q9kK => first | exact rfl | assumption); (case q9kd => ktr_room); (case q9ku => ktr_units); intro t9 h9 tk9 F9 N9; (try dsimp only); (try k_fold); (try k_sweep)))
  k_with "mine useT" => (((case q9k1 => k_asm); (case q9k2 => k_asm); (case q9k3 => k_asm); (case q9k4 => k_asm); (case q9k5 => k_asm); (case q9kK => first | exact rfl | assumption); (case q9kd => ktr_room); (case q9ku => ktr_units); intro D9 ps9 h9 tk9 e9 F9 N9 l9; (try k_lt l9); (try dsimp only); (try k_fold); (try k_sweep)))
  k_with "mine word" => (first | with_reducible exact w_slash | with_reducible exact w_dot | with_reducible exact w_dotdot | with_reducible exact w_nil | with_reducible rfl)
  k_with "mine len" => (first | assumption | lia | (simp only [List.length_take, List.length_drop, List.length_append, List.length_replicate, List.length_cons, List.length_nil]; lia))
  k_with "call builtin:issubclass" => ((k_here; k_dflt (refine' k_issub ?q9k1 ?q9k2 ?_; (case q9k1 => k_asm); (case q9k2 => k_mem); k_whole)))
  k_with "call builtin:str.rfind" => ((k_here; k_dflt (refine' t_rfind ?q9y ?_; (case q9y => walk_at "mine word"); k_whole); intro r' hr' h1' h2'))
  k_with "subscriptTail Name Slice str ref" => ((k_here; (with_reducible show wpAny _ _ (subscriptTail _ (Expr.Slice (some _) none none _) (Value.str (mkS _) _) _) _ _ _); k_dflt (refine' t_slice_from (s := ⟨_, _, _, _, _⟩) ?q9F ?q9N ?q9x ?q9i ?_ ?q9hs ?q9ht; (case q9F => k_asm); (case q9N => k_asm); (case q9x => walk_at "mine len"); (case q9i => walk_at "mine len"); (case q9hs => with_unfolding_all rfl); (case q9ht => intro _; with_unfolding_all rfl); k_whole); intro h' t' k' F' N'; (try k_sweep)))
  k_with "subscriptTail Name Slice str ref" => ((k_here; (with_reducible show wpAny _ _ (subscriptTail _ (Expr.Slice none (some _) none _) (Value.str (mkS _) _) _) _ _ _); k_dflt (refine' t_slice_to (s := ⟨_, _, _, _, _⟩) ?q9F ?q9N ?q9x ?q9i ?_ ?q9hs ?q9ht; (case q9F => k_asm); (case q9N => k_asm); (case q9x => walk_at "mine len"); (case q9i => walk_at "mine len"); (case q9hs => with_unfolding_all rfl); (case q9ht => intro _; with_unfolding_all rfl); k_whole); intro h' t' k' F' N'; (try k_sweep)))
  k_with "subscriptTail Name Slice str ref" => ((k_here; (with_reducible show wpAny _ _ (subscriptTail _ (Expr.Slice (some _) (some _) none _) (Value.str (mkS _) _) _) _ _ _); k_dflt (refine' t_slice_mid (s := ⟨_, _, _, _, _⟩) ?q9F ?q9N ?q9x ?q9i ?q9j ?_ ?q9hs ?q9ht; (case q9F => k_asm); (case q9N => k_asm); (case q9x => walk_at "mine len"); (case q9i => walk_at "mine len"); (case q9j => walk_at "mine len"); (case q9hs => with_unfolding_all rfl); (case q9ht => intro _; with_unfolding_all rfl); k_whole); intro h' t' k' F' N'; (try k_sweep)))
  k_with "truthy str" => ((k_here; (with_reducible show wpAny _ _ (PySem.truthy (Value.str (mkS _) _)) _ _ _); k_dflt (refine' t_truthy ?q9x ?_; (case q9x => walk_at "mine len"); k_whole); intro k'))
  k_with "call builtin:len" => ((k_here; (with_reducible show wpAny _ _ (call (Value.builtin "len") [Value.str (mkS _) _]) _ _ _); k_dflt (refine' t_len ?q9x ?_; (case q9x => walk_at "mine len"); k_whole); intro k'))
  k_with "compareOp NotEq str str" => ((k_here; (with_reducible show wpAny _ _ (compareOp CmpOp.NotEq (Value.str (mkS _) _) _) _ _ _); k_dflt (refine' t_ne ?q9y ?_; (case q9y => walk_at "mine word"); k_whole)))
  k_with "compareOp Eq str str" => ((k_here; (with_reducible show wpAny _ _ (compareOp CmpOp.Eq (Value.str (mkS _) _) _) _ _ _); k_dflt (refine' t_eq ?q9y ?_; (case q9y => walk_at "mine word"); k_whole)))
  k_with "binaryOp Add str str" => ((k_here; k_dflt (refine' t_add ?q9x ?q9y ?q9l ?_; (case q9x => walk_at "mine word"); (case q9y => walk_at "mine word"); (case q9l => walk_at "mine len"); k_whole); intro t' k'))
  k_with "binaryOp Mult str int" => ((k_here; k_dflt (refine' t_mul ?q9y ?q9a ?q9b ?_; (case q9y => walk_at "mine word"); (case q9a => walk_at "mine len"); (case q9b => walk_at "mine len"); k_whole); intro t' k'))
  k_with "call builtin:str.rstrip" => ((k_here; k_dflt (refine' t_rstrip ?q9y ?q9x ?_; (case q9y => walk_at "mine word"); (case q9x => walk_at "mine len"); k_whole); intro t' k'))
  k_with "call builtin:str.lstrip" => ((k_here; k_dflt (refine' t_lstrip ?q9y ?q9x ?_; (case q9y => walk_at "mine word"); (case q9x => walk_at "mine len"); k_whole); intro t' k'))
  k_with "call builtin:str.startswith" => ((k_here; k_dflt (refine' t_starts ?q9y ?_; (case q9y => walk_at "mine word"); k_whole)))
  k_with "call builtin:str.endswith" => ((k_here; k_dflt (refine' t_ends ?q9y ?_; (case q9y => walk_at "mine word"); k_whole)))
  k_with "call builtin:str.split" => ((k_here; k_dflt (refine' t_split ?q9F ?q9N ?q9y ?q9x ?_; (case q9F => k_asm); (case q9N => k_asm); (case q9y => walk_at "mine word"); (case q9x => walk_at "mine len"); k_whole); intro ps' h' k' e' F' N'; (try k_sweep)))
  k_with "call builtin:str.join" => ((k_here; k_dflt (refine' t_join ?q9N ?q9m ?q9y ?q9l ?_; (case q9N => k_asm); (case q9m => k_mem); (case q9y => walk_at "mine word"); (case q9l => walk_at "mine len"); k_whole); intro t' k'))
  k_with "subscriptTail Name Name str int" => ((k_here; (with_reducible show wpAny _ _ (subscriptTail _ _ (Value.str (mkS _) _) _) _ _ _); k_dflt (refine' t_item ?q9x ?q9i ?q9j ?_ ?q9hs ?q9ht; (case q9x => walk_at "mine len"); (case q9i => walk_at "mine len"); (case q9j => walk_at "mine len"); (case q9hs => with_unfolding_all rfl); (case q9ht => intro _; with_unfolding_all rfl); k_whole); intro c' hc'))
  k_with "exec While Compare cons nil" => ((k_here; k_extra "mine while"))
  k_with "IntTurn ret" => (dsimp only [IntTurn])
  k_with "IntTurn next" => ((refine' int_turn_next ?q9F ?q9N ?q9m ?q9P; (case q9F => k_asm); (case q9N => k_asm); (case q9m => k_extra "mine measure"); (case q9P => k_extra "mine state")))
  k_with "exec If" => ((k_here; k_extra "mine if"))
  k_with "exec For Name Name cons nil" => ((k_here; k_extra "mine for"))
  k_with "pyIter ref" => ((k_here; k_extra "mine iter"))
  k_with "LoopStep3 next" => ((k_extra "mine step"))
  k_with "inplaceOp Add str str" => ((k_here; k_dflt (refine' t_iadd ?q9x ?q9y ?q9l ?_; (case q9x => walk_at "mine word"); (case q9y => walk_at "mine word"); (case q9l => walk_at "mine len"); k_whole); intro t' k'))
  k_with "TurnEnd next" => ((refine' acc_next ?q9F ?q9N ?q9m ?q9hlt ?_; (case q9F => k_asm); (case q9N => k_asm); (case q9m => k_mem); (case q9hlt => assumption)))
  k_with "TurnEnd cont" => ((refine' acc_cont ?q9F ?q9N ?q9m ?q9hlt ?_; (case q9F => k_asm); (case q9N => k_asm); (case q9m => k_mem); (case q9hlt => assumption)))
  k_with "truthy ref" => ((k_here; k_dflt (refine' t_truthyL ?q9N ?q9m ?q9z ?_; (case q9N => k_asm); (case q9m => k_mem); (case q9z => walk_at "mine len"); k_whole); intro k'))
  k_with "subscriptTail Name UnaryOp ref int" => ((k_here; k_dflt (refine' t_last ?q9N ?q9m ?q9e ?q9z ?_ ?q9s; (case q9N => k_asm); (case q9m => k_mem); (case q9e => first | assumption | (simp_all; done)); (case q9z => walk_at "mine len"); (case q9s => with_unfolding_all rfl); k_whole); intro q' p' e'))
  k_with "call builtin:list.append" => ((k_here; k_dflt (refine' t_append ?q9F ?q9N ?q9y ?q9U ?q9z ?_; (case q9F => k_asm); (case q9N => k_asm); (case q9y => walk_at "mine word"); (case q9U => k_upd); (case q9z => walk_at "mine len"); k_whole); intro h' F' N'; (try k_sweep)))
  k_with "call builtin:list.pop" => ((k_here; k_dflt (refine' t_pop ?q9F ?q9N ?q9e ?q9U ?q9z ?_; (case q9F => k_asm); (case q9N => k_asm); (case q9e => first | assumption | (simp_all; done)); (case q9U => k_upd); (case q9z => walk_at "mine len"); k_whole); intro h' v' F' N'; (try k_sweep)))
  k_with "truthy str" => ((k_here; (with_reducible show wpAny _ _ (PySem.truthy (Value.str (mkS [_]) _)) _ _ _); k_dflt (refine t_truthy1 ?_); intro k'))
  k_with "formatField str" => ((k_here; k_dflt (refine' t_field ?q9x ?_; (case q9x => walk_at "mine len"); k_whole); intro t' k'))
  k_with "exec If" => ((k_here; refine wpAny_If ?_))
  k_with "mine word" => (first | with_reducible exact w_slash | with_reducible exact w_dot | with_reducible exact w_dotdot | with_reducible exact w_nil | with_reducible exact w_star | with_reducible exact w_quest | with_reducible exact w_open | with_reducible exact w_bang | with_reducible exact w_shut | with_reducible exact w_hyph | with_reducible exact w_bsl | with_reducible exact w_bsl2 | with_reducible exact w_never | with_reducible exact w_hat | with_reducible exact w_bopen | with_reducible exact w_dots | with_reducible exact w_lazy | with_reducible exact w_par | with_reducible exact w_pre | with_reducible exact w_end | with_reducible rfl)
  k_with "getAttr ref true" => ((k_here; k_dflt (refine' w_bound ?q9F ?q9N ?q9m ?_; (case q9F => k_asm); (case q9N => k_asm); (case q9m => k_mem); k_whole); intro b' h' k' F' N' l1; (try k_lt l1)))
  k_with "getAttr ref" => ((k_here; k_dflt (refine' w_bound ?q9F ?q9N ?q9m ?_; (case q9F => k_asm); (case q9N => k_asm); (case q9m => k_mem); k_whole); intro b' h' k' F' N' l1; (try k_lt l1)))
  k_with "exec While BoolOp cons nil" => ((k_here; k_extra "mine while"))
  k_with "StandsA" => (exact standsA (by k_asm) (by k_mem))
  k_with "callWith ref" => ((k_here; k_dflt (refine' callWith_boundA ?q9N ?q9m ?_; (case q9N => k_asm); (case q9m => k_mem); k_whole)))
  k_with "And" => (((with_reducible show StandsA _ _ _ ∧ _); refine ⟨standsA (by k_asm) (by k_mem), ?_⟩; try dsimp only [List.nil_append, List.cons_append]))
  k_with "compareOp NotIn str str" => ((k_here; k_dflt (refine' t_notin' ?q9y ?q9c ?_; (case q9y => walk_at "mine word"); (case q9c => k_extra "mine notin"); k_whole)))
  k_with "call builtin:str.replace" => ((k_here; k_dflt (refine' t_replace ?q9hu ?q9hv ?q9huv ?q9y ?q9z ?q9r ?q9yz ?q9x ?_; (case q9y => walk_at "mine word"); (case q9z => walk_at "mine word"); (case q9hu => exact Nat.succ_ne_zero _); (case q9hv => exact Nat.succ_ne_zero _); (case q9huv => exact Nat.ne_of_lt (Nat.lt_succ_self _)); (case q9r => decide); (case q9yz => decide +kernel); (case q9x => walk_at "mine len"); k_whole); intro t' k'))
  k_with "joinParts" => ((k_here; k_dflt (first
  | (refine' t_jp_cons ?q9o ?_; (case q9o => first | exact w_nil | with_reducible rfl | rfl); k_whole)
  | (refine' t_jp_nil ?q9x ?_; (case q9x => walk_at "mine len"); k_whole; intro t' k'))))
  k_with "Exists" => ((k_dflt (refine' ⟨_, ?q9y, ?q9l, ?_⟩; (case q9y => walk_at "mine word"); (case q9l => walk_at "mine len"); k_whole)))
  k_with "compareOp IsNot str ref" => ((k_here; refine wpAny_isNot_other (by rfl) (by intro x; cases x) ?_))
  k_with "compareOp IsNot ref ref" => ((k_here; refine wpAny_isNot_self (by rfl) ?_))
  k_with "subscriptTail Name Constant str int" => ((k_here; (with_reducible show wpAny _ _ (subscriptTail _ _ (Value.str (mkS _) _) _) _ _ _); k_dflt (refine' t_item ?q9x ?q9i ?q9j ?_ ?q9hs ?q9ht; (case q9x => walk_at "mine len"); (case q9i => walk_at "mine len"); (case q9j => k_extra "mine first"); (case q9hs => with_unfolding_all rfl); (case q9ht => intro _; with_unfolding_all rfl); k_whole); intro c' hc'))
  k_with "execs cons" => ((k_here; k_extra "mine toks"))
  k_with "compareOp Is str ref" => ((k_here; refine wpAny_is_other (by rfl) (by intro x; cases x) ?_))
  k_with "compareOp Is ref ref" => ((k_here; refine wpAny_is_self (by rfl) ?_))
  k_with "compareOp In str str" => ((k_here; k_dflt (refine' t_in ?q9y ?_; (case q9y => walk_at "mine word"); k_whole)))
  k_with "TTurn ret" => (dsimp only [TTurn])
  k_with "TJoin next" => ((k_here; k_dflt (refine' tjoin ?q9F ?q9N ?q9e ?q9hm ?q9hi ?_; (case q9F => k_asm); (case q9e => exact rfl); (case q9N => k_extra "mine ledger"); (case q9hm => (intro y h1 h2; (repeat (first | (with_reducible exact rfl) | refine ite_off (by assumption) ?_)); (try exact rfl))); (case q9hi => exact rfl))))
  k_with "TTurn brk" => (dsimp only [TTurn])
  k_with "TTurn next" => ((k_here; k_dflt (refine' tturn_next ?q9F ?q9N ?q9e ?q9hm ?q9hi ?_ ?_; (case q9F => k_asm); (case q9e => exact rfl); (case q9N => k_extra "mine ledger"); (case q9hm => (intro y h1 h2; (repeat (first | (with_reducible exact rfl) | refine ite_off (by assumption) ?_)); (try exact rfl))); (case q9hi => exact rfl))))
  k_with "mine sub" => (first | exact fun _ h => h | (refine fun p hp => ?_; repeat (first | exact hp | refine List.Mem.tail _ ?_)))
  trivial
local macro_rules | `(tactic| k_all) => `(tactic| first | assumption | exact allNe_of_lt (by assumption) | exact allNe_of_and (by assumption))
theorem lines_IlF2_1 : True := by
  k_with "call ref" => ((k_here; k_dflt (refine' w_callT ?q9F ?q9N ?q9b ?q9m ?q9x ?q9U ?q9z ?_; (case q9F => k_asm); (case q9N => k_asm); (case q9b => k_mem); (case q9m => k_mem); (case q9x => walk_at "mine word"); (case q9U => k_upd); (case q9z => walk_at "mine len"); k_whole; intro h' F' N'; (try k_sweep))))
  k_with "call builtin:str.join" => ((k_here; k_dflt (refine' t_join0 ?q9N ?q9m ?q9y ?q9l ?_; (case q9N => k_asm); (case q9m => k_mem); (case q9y => walk_at "mine word"); (case q9l => walk_at "mine len"); k_whole); intro t' k'))
  k_with "call builtin:len" => ((k_here; (with_reducible show wpAny _ _ (call (Value.builtin "len") [Value.ref _]) _ _ _); k_dflt (refine' p_len ?q9N ?q9m ?q9z ?_; (case q9N => k_asm); (case q9m => k_mem); (case q9z => walk_at "mine len"); k_whole); intro k'))
  k_with "subscriptTail Name Name ref int" => ((k_here; k_dflt (refine' p_item ?q9N ?q9m ?q9a ?q9b ?q9z ?_ ?q9s; (case q9N => k_asm); (case q9m => k_mem); (case q9a => walk_at "mine len"); (case q9b => walk_at "mine len"); (case q9z => walk_at "mine len"); (case q9s => with_unfolding_all rfl); k_whole); intro p' hp'; rcases p' with _ | p'; all_goals dsimp only [pv1]))
  k_with "subscriptTail Name Name ref int" => ((k_here; k_dflt (refine' p_itemK ?q9N ?q9m ?q9a ?q9k ?q9z ?_ ?q9s; (case q9N => k_asm); (case q9m => k_mem); (case q9a => walk_at "mine len"); (case q9k => assumption); (case q9z => walk_at "mine len"); (case q9s => with_unfolding_all rfl)); (try dsimp only [pv1])))
  k_with "mine enterN" => ((unfold CtN; intro dp un gd cn cs a ccd cl outer A₀ base h₀ L m news s Q E B F X N hD T hk hd hu hret; refine wpAny_call ?_; k_dflt cell_enter))
  trivial
local macro_rules | `(tactic| k_mem) => `(tactic| assumption)
set_option maxHeartbeats 8000000 in
theorem c_jparts (prog : Program) (w : World) (p : Program) (loose : List Str) (mean : ExcName → Option Value) (mg mb : Str → Option Value) (D S : Addr) (ps : List Part) (n₀ : Nat) (hx : ps.length ≤ 100000) (hl : (leadT (fsts ps)).length ≤ 1000000) (hadj : NoAdj (fsts ps)) :
    CtN prog w p loose mean mg mb (fun news => (D, lstP S ps n₀) ∈ news) 83 1 64 [.ref D, .ref S] (fun t => .str (mkS ([] ++ [40, 63, 115, 58] ++ leadT (fsts ps) ++ [41, 92, 90])) t) := by
  walk_at "mine enterN"
  k_with "mine while" => refine Stop.go ?_
  k_with "mine ledger" => first | k_asm | exact news_tail (by k_asm)
  k_steps
  refine Stop.of ?_
  rename Fr _ _ _ _ => Fw
  rename News _ _ _ _ => Nw
  refine' while_j (ts₀ := []) (Str.ofString "i") (J1 ps) (J2 ps) (fun k => (ps.length - k).toNat) Fw (news_tail Nw) ?hm ?hP ?turn ?h2 ?E
  case hm => exact rfl
  case hP => exact J1.start ps
  case E => with_unfolding_all passes_own
  case turn =>
    intro k t ts n vc h₁ tk₁ hJ F1 N1
    clear Fw Nw
    have hk0 := hJ.1
    have hk1 := hJ.2.1
    have hk2 := hJ.2.2.1
    k_steps
    all_goals (first | lia | exact J1.step hJ (by assumption) (by assumption) | exact J2.of1 hJ (.inl (by assumption)) | exact J2.of1 hJ (.inr (by assumption)))
  case h2 =>
    intro k t ts n vc h₁ tk₁ F1 N1 hJ
    clear Fw Nw
    k_steps
    refine Stop.of ?_
    refine' while_j (Str.ofString "fixed") (J2 ps) (fun k ts => flat ts = leadT (fsts ps) ∧ k = ps.length ∧ (ts.length : Int) ≤ 2 * k) (fun k => (ps.length - k).toNat) F1 N1 ?hm ?hP ?turn ?h2 ?E
    case hm => exact rfl
    case hP => exact hJ
    case E => with_unfolding_all passes_own
    case turn =>
      clear F1 N1 hJ
      intro k t ts n vc h₁ tk₁ hJ F1 N1
      have hk0 := hJ.1.1
      have hk1 := hJ.1.2.1
      have hk2 := hJ.1.2.2.1
      k_steps
      all_goals (try (first | lia | exact J2.last hJ.1 (by assumption) (by assumption) | exact (no_adj hadj hk0 (by assumption) (by assumption)).elim | exact J1.done hJ.1 (by assumption) | (have h8 := hJ.2 (by assumption); rw [‹ps[k.toNat]? = some (some _)›] at h8; cases h8)))
      all_goals (try (refine Stop.of ?_))
      rename Fr _ _ _ _ => F3
      rename News _ _ _ _ => N3
      have hp0 : ps[k.toNat]? = some none := by assumption
      refine' while_k (ts₀ := []) (Str.ofString "i") (J3 ps (k + 1)) (fun j fs => J3 ps (k + 1) j fs ∧ (¬ j < ps.length ∨ ps[j.toNat]? = some none)) (fun j => (ps.length - j).toNat) F3 N3 ?hm3 ?hP3 ?turn3 ?h23 ?E3
      case hm3 => exact rfl
      case hP3 => exact J3.start (by lia) (by lia)
      case E3 => with_unfolding_all passes_own
      case turn3 =>
        intro j t3 fs n3 v3 h3 tk3 hG F4 N4
        clear F3 N3
        have hg0 := hG.1
        have hg1 := hG.2.1
        have hg2 := hG.2.2.1
        k_steps
        all_goals (first | lia | exact J3.step (by lia) hG (by assumption) (by assumption) | exact hG | exact .inl (by assumption) | exact .inr (by assumption))
      case h23 =>
        intro j t3 fs n3 v3 h3 tk3 F4 N4 hG
        clear F3 N3
        have hg0 := hG.1.1
        have hg1 := hG.1.2.1
        have hg2 := hG.1.2.2.1
        have hfl := J3.lenB hJ.1 hp0 rfl hG.1
        have hfm : (flat fs).length ≤ 1000000 := Nat.le_trans hfl hl
        k_steps
        all_goals (first | lia | exact J2.end hJ.1 hp0 rfl hG.1 (by lia) | exact J2.mid hJ.1 hp0 rfl hG.1 (hG.2.resolve_left (by lia)) | trace_state)
    case h2 =>
      clear F1 N1 hJ
      intro k t ts n vc h₁ tk₁ F1 N1 hJ
      have hfl : (flat ts).length ≤ 1000000 := by rw [hJ.1]; exact hl
      have hk2 := hJ.2.1
      have hk3 := hJ.2.2
      k_steps
      all_goals (first | lia | walk_at "mine endS")
      rw [hJ.1]

end Mine
end -- IlF2
section -- IlG1
theorem Mine.none_IlG1 : True := by
  k_with_none
  trivial
open PySem PySem.W PyProof.Rows PySem.Calls PySem.Spec PySem.Builtin PySem.Builtin.Str
namespace Mine
noncomputable def barC (c : Nat) : List Nat := if c = 92 ∨ c = 38 ∨ c = 124 ∨ c = 126 then [92, c] else [c]
theorem bar_rep (s : List Nat) : barL (repL 92 [92, 92] s) = s.flatMap barC := by
  induction s with
  | nil => rfl
  | cons c s ih =>
    have e : repL 92 [92, 92] (c :: s) = (if c = 92 then [92, 92] else [c]) ++ repL 92 [92, 92] s := rfl
    rw [e, barL_app, ih, List.flatMap_cons]
    congr 1
    unfold barC
    by_cases h : c = 92
    · subst h; rfl
    · rw [if_neg h]
      unfold barL isSpec
      by_cases h1 : c = 38
      · subst h1; rfl
      · by_cases h2 : c = 124
        · subst h2; rfl
        · by_cases h3 : c = 126
          · subst h3; rfl
          · simp [h, h1, h2, h3]
theorem flat_len2 (s : List Nat) : (s.flatMap barC).length ≤ 2 * s.length := by
  induction s with
  | nil => exact Nat.le_refl _
  | cons c s ih =>
    rw [List.flatMap_cons, List.length_append, List.length_cons]
    have : (barC c).length ≤ 2 := by unfold barC; split <;> simp
    lia
theorem flat_len1 (s : List Nat) : s.length ≤ (s.flatMap barC).length := by
  induction s with
  | nil => exact Nat.le_refl _
  | cons c s ih =>
    rw [List.flatMap_cons, List.length_append, List.length_cons]
    have : 1 ≤ (barC c).length := by unfold barC; split <;> simp
    lia
theorem setB_len (s : List Nat) : (setB s).length ≤ s.length + 4 := by
  unfold setB
  (repeat' split) <;> simp
  all_goals lia
theorem setL_len (s : List Nat) : (setL s).length ≤ 2 * s.length + 4 := by
  unfold setL
  rw [bar_rep]
  have := setB_len (s.flatMap barC)
  have := flat_len2 s
  lia
theorem escS_len (c : Nat) : (escS c).length ≤ 2 := by unfold escS; split <;> simp
theorem close_gt (x : List Nat) (i : Nat) : i < closeL x i := by unfold closeL; dsimp only; split <;> lia
/-- a part's share of the text -/
noncomputable def wP (p : Option (List Nat)) : Nat := match p with | some a => a.length | none => 7
noncomputable def wL (l : List (Option (List Nat))) : Nat := (l.map wP).sum
theorem wP_some (a : List Nat) : wP (some a) = a.length := rfl
theorem wP_none : wP none = 7 := rfl
theorem wL_app (a b : List (Option (List Nat))) : wL (a ++ b) = wL a + wL b := by unfold wL; simp
theorem wL_cons (p : Option (List Nat)) (r : List (Option (List Nat))) : wL (p :: r) = wP p + wL r := by unfold wL; simp
theorem goT_le : ∀ (l : List (Option (List Nat))) (run : List Nat), (goT run l).length ≤ run.length + 7 + wL l
  | [], run => by unfold goT wL; simp
  | some a :: r, run => by
    have := goT_le r (run ++ a)
    rw [List.length_append] at this
    rw [wL_cons, wP_some]
    unfold goT
    lia
  | none :: r, run => by
    have := goT_le r []
    rw [wL_cons, wP_none]
    unfold goT
    simp only [List.length_append, List.length_cons, List.length_nil] at *
    lia
theorem leadT_le : ∀ (l : List (Option (List Nat))), (leadT l).length ≤ wL l
  | [] => Nat.le_refl _
  | some a :: r => by
    have := leadT_le r
    rw [wL_cons, wP_some]
    unfold leadT
    rw [List.length_append]
    lia
  | none :: r => by
    have := goT_le r []
    rw [wL_cons, wP_none]
    unfold leadT
    simp only [List.length_nil] at this
    lia
theorem step_len (x : List Nat) (i : Nat) (hi : i < x.length) : i < (stepL x i).2 ∧ (stepL x i).2 ≤ x.length ∧ wP (stepL x i).1 ≤ 8 * ((stepL x i).2 - i) := by
  have hx := List.getElem?_eq_getElem hi
  by_cases h1 : x[i] = 42
  · rw [h1] at hx; rw [step_star hx]; exact ⟨by simp, hi, by show 7 ≤ 8 * (i + 1 - i); lia⟩
  · by_cases h2 : x[i] = 63
    · rw [h2] at hx; rw [step_q hx]; exact ⟨by simp, hi, by show 1 ≤ 8 * (i + 1 - i); lia⟩
    · by_cases h3 : x[i] = 91
      · rw [h3] at hx
        rcases Nat.lt_or_ge (closeL x (i + 1)) x.length with q | q
        · rw [step_hit hx rfl q]
          have hg := close_gt x (i + 1)
          refine ⟨by show i < closeL x (i + 1) + 1; lia, q, ?_⟩
          show (setL _).length ≤ _
          have := setL_len ((x.take (closeL x (i + 1))).drop (i + 1))
          rw [List.length_drop, List.length_take] at this
          show _ ≤ 8 * (closeL x (i + 1) + 1 - i)
          lia
        · rw [step_miss hx q]; exact ⟨by simp, hi, by show 2 ≤ 8 * (i + 1 - i); lia⟩
      · have := step_other hx (fun e => h1 (List.head_eq_of_cons_eq e)) (fun e => h2 (List.head_eq_of_cons_eq e)) (fun e => h3 (List.head_eq_of_cons_eq e))
        rw [this]
        refine ⟨by simp, hi, ?_⟩
        show (escS _).length ≤ 8 * (i + 1 - i)
        have := escS_len x[i]
        lia
theorem addL_w (acc : List (Option (List Nat))) (p : Option (List Nat)) : wL (addL acc p) ≤ wL acc + wP p := by
  unfold addL
  split
  · lia
  · rw [wL_app, wL_cons]; unfold wL; simp
theorem go_len (x : List Nat) : ∀ (f i : Nat) (acc : List (Option (List Nat))), wL (transGo x f i acc) ≤ wL acc + 8 * (x.length - i)
  | 0, i, acc => by unfold transGo; lia
  | f + 1, i, acc => by
    unfold transGo
    split
    · rename_i hi
      have h := step_len x i hi
      have h2 := go_len x f (stepL x i).2 (addL acc (stepL x i).1)
      have h3 := addL_w acc (stepL x i).1
      lia
    · lia
theorem trans_w (x : List Nat) : wL (transL x) ≤ 8 * x.length := by
  have := go_len x x.length 0 []
  unfold transL
  have e : wL [] = 0 := rfl
  lia
theorem addL_len (acc : List (Option (List Nat))) (p : Option (List Nat)) : (addL acc p).length ≤ acc.length + 1 := by
  unfold addL
  split
  · lia
  · simp
theorem go_count (x : List Nat) : ∀ (f i : Nat) (acc : List (Option (List Nat))), (transGo x f i acc).length ≤ acc.length + f
  | 0, i, acc => by unfold transGo; lia
  | f + 1, i, acc => by
    unfold transGo
    split
    · have h2 := go_count x f (stepL x i).2 (addL acc (stepL x i).1)
      have h3 := addL_len acc (stepL x i).1
      lia
    · lia
theorem trans_count (x : List Nat) : (transL x).length ≤ x.length := by
  have := go_count x x.length 0 []
  unfold transL
  simpa using this
theorem noadj_add {acc : List (Option (List Nat))} {p : Option (List Nat)} (h : NoAdj acc) : NoAdj (addL acc p) := by
  unfold addL
  split
  · exact h
  · rename_i hn
    intro k h1 h2
    rcases Nat.lt_trichotomy (k + 1) acc.length with q | q | q
    · rw [List.getElem?_append_left (by lia)] at h1
      rw [List.getElem?_append_left q] at h2
      exact h k h1 h2
    · rw [List.getElem?_append_left (by lia)] at h1
      rw [List.getElem?_append_right (by lia), q, Nat.sub_self] at h2
      have h3 : p = none := by simpa using h2
      apply hn
      refine ⟨h3, ?_⟩
      rw [List.getLast?_eq_getElem?]
      rw [← q]
      exact h1
    · rw [List.getElem?_append_right (by lia)] at h2
      have : k + 1 - acc.length ≠ 0 := by lia
      obtain ⟨j, hj⟩ : ∃ j, k + 1 - acc.length = j + 1 := ⟨k - acc.length, by lia⟩
      rw [hj] at h2
      simp at h2
theorem go_noadj (x : List Nat) : ∀ (f i : Nat) (acc : List (Option (List Nat))), NoAdj acc → NoAdj (transGo x f i acc)
  | 0, i, acc, h => by unfold transGo; exact h
  | f + 1, i, acc, h => by
    unfold transGo
    split
    · exact go_noadj x f _ _ (noadj_add h)
    · exact h
theorem trans_noadj (x : List Nat) : NoAdj (transL x) := go_noadj x _ _ _ fun k h => by simp at h
/-- what translate makes of a text -/
noncomputable def fnL (x : List Nat) : List Nat := [] ++ [40, 63, 115, 58] ++ leadT (transL x) ++ [41, 92, 90]
theorem fnL_len (x : List Nat) : (fnL x).length ≤ 8 * x.length + 7 := by
  have h1 := trans_w x
  have h2 := leadT_le (transL x)
  unfold fnL
  simp only [List.length_append, List.length_cons, List.length_nil]
  lia
noncomputable def RetS (h₀ : Heap) (L : Addr) (m : Str → Option Value) (news : List (Addr × Obj)) (s : Shared) (Q : Value → Shared → Prop) (R : Tok → Value) : Prop :=
  ∀ (t : Tok) (st : Option (Addr × Obj)) (h' : Heap) (tk' : Nat), OkTab lamQ st → Fr h₀ L h' m → News h₀ L h' (tabL st ++ news) → Q (R t) { s with heap := h', toks := tk' }
/-- a contract of a def that may make the lambda's code -/
noncomputable abbrev CtS (prog : Program) (w : World) (p : Program) (loose : List Str) (mean : ExcName → Option Value) (mg mb : Str → Option Value) (f : Addr) (d u : Nat) (vs : List Value) (R : Tok → Value) : Prop :=
  ∀ (dp un : Nat) (gd : Option (List Code)) (cn : Str) (cs : Scope) (a : Addr) (ccd : Value) (cl : List (Str × Addr)) (outer : List Env) (A₀ : Around) (base h₀ : Heap) (L : Addr) (m : Str → Option Value) (news : List (Addr × Obj)) (s : Shared) (Q E : Value → Shared → Prop) (st : Option (Addr × Obj)),
    Below A₀ base outer h₀ → Fr h₀ L s.heap m → (K w.params).In h₀ → News h₀ L s.heap (tabL st ++ news) → OkTab lamQ st → (∀ q ∈ news, q.1 ≠ 71) → Top p loose mean mg mb h₀ → cs.kind = .function → dp + d < recursionLimit → un + u < cLine → RetS h₀ L m news s Q R →
      wpAny (model prog w) (ktrTop dp un gd cn cs L a ccd cl outer) (call (.ref f) vs) Q E s
theorem news_swap {h₀ h : Heap} {L : Addr} {q : Addr × Obj} {a b : List (Addr × Obj)} (N : News h₀ L h (q :: (a ++ b))) : News h₀ L h (a ++ q :: b) := fun p hp => N p (by
  rcases List.mem_append.mp hp with h | h
  · exact .tail _ (List.mem_append_left _ h)
  · rcases List.mem_cons.mp h with rfl | h
    · exact .head _
    · exact .tail _ (List.mem_append_right _ h))
end Mine
end -- IlG1
section -- IlG2
theorem Mine.none_IlG2 : True := by
  k_with_none
  trivial
open PySem PySem.W PyProof.Rows PySem.Calls PySem.Spec PySem.Builtin PySem.Builtin.Str
namespace Mine
namespace F
theorem mro_object : mroOf (.type "object") = pure [.type "object"] := by kernel_rfl
theorem lookup_object_new : typeLookup (.type "object") "__new__" = pure (some (.builtin "object.__new__")) := by rw [typeLookup_type, builtinLookup_eq_fast]; kernel_rfl
theorem slot_object_init : Slot "object" "__init__" "object.__init__" := .of (owner := "object") (n := "__init__") (by rw [typeLookup_type, builtinLookup_eq_fast]; kernel_rfl) (by decide +kernel) (by decide +kernel) (by decide +kernel)
  (by first | exact .inl (by decide +kernel) | exact .inr (by decide +kernel)) (by rw [isSubtype_type]; kernel_rfl)
theorem called_object : TypeCalled "object" "object.__new__" "object.__init__" :=
  ⟨by decide +kernel, by decide +kernel, ⟨_, _, mro_object⟩, madeBy_type mro_object lookup_object_new (by decide +kernel), by decide +kernel, by rw [isSubtype_type]; kernel_rfl, slot_object_init⟩
theorem newCall_object : checkBuiltinCall "object.__new__" ⟨[.type "object"], []⟩ = pure () := by kernel_rfl
theorem typeCall_object : checkTypeCall "object" ⟨[], []⟩ = pure () := by kernel_rfl
theorem initArgs_object (o : Value) : argsOk "object.__init__" ⟨[o], []⟩ := by unfold argsOk; kernel_rfl
theorem entry_object_new : entryFor table "object.__new__" = some Builtin.«object.__new__» := entryFor_of_tree (by kernel_rfl)
theorem plain_object_new : plainId "object.__new__" = true := by decide +kernel
theorem made_object : Bind.madeHere "object.__new__" (.type "object") = pure () := by kernel_rfl
theorem hasDict_object : typeHasDict (.type "object") = false := by kernel_rfl
end F
section
variable {prog : Program} {w : World} {A : Around} {E : Value → Shared → Prop} {s : Shared}
theorem code_object_new {Q₁ : Value → Shared → Prop} (hq : Q₁ (.ref s.heap.objs.size) { s with heap := s.heap.push starObj }) :
    codeAny (model prog w) A (.call (.builtin "object.__new__") ⟨[.type "object"], []⟩) (wants Q₁ E) s := by
  refine codeAny_of_tree ?_
  show wpAny _ A.in1 (do checkBuiltinCall "object.__new__" ⟨[.type "object"], []⟩; again (.builtin "object.__new__" ⟨[.type "object"], []⟩)) _ _ s
  refine wpAny_bind (wpAny_of_eq F.newCall_object (wpAny_pure ⟨plainId_quiet F.plain_object_new _, codeAny_builtin F.entry_object_new ?_⟩))
  rw [Around.under_plainId F.plain_object_new _]
  have h1 := F.made_object
  have h2 := F.hasDict_object
  unfold Builtin.«object.__new__»
  have h3 : ((Manifest.find? "object").elim false fun x => x.mro.any fun t => (Manifest.find? t).elim false (·.noNew)) = false := by decide +kernel
  have h4 : diesByItsTypesDel "object" = false := by decide +kernel
  refine wpAny_bind (wpAny_of_eq (a := true) rfl ?_)
  rw [if_neg (by decide)]
  have ite_no : ∀ {α : Type} {c : Prop} [Decidable c] {a b : Sem α} {Q : α → Shared → Prop} {E : Value → Shared → Prop} {s : Shared}, ¬ c → wpAny (model prog w) A.in1 b Q E s → wpAny (model prog w) A.in1 (if c then a else b) Q E s := fun hc h => by rw [if_neg hc]; exact h
  refine ite_no (by rw [h3]; decide) ?_
  refine wpAny_bind (wpAny_of_eq h1 ?_)
  refine ite_no (by decide) ?_
  refine ite_no (by rw [h2]; decide) ?_
  refine wpAny_bind (wpAny_pure ?_)
  refine wpAny_bind (wpAny_newObj_type ?_)
  refine ite_no (by rw [h4]; decide) ?_
  exact wpAny_pure hq
theorem call_object {h₀ : Heap} {L : Addr} {m : Str → Option Value} {news : List (Addr × Obj)} {Q : Value → Shared → Prop} (F : Fr h₀ L s.heap m) (N : News h₀ L s.heap news)
    (h : ∀ a h', Fr h₀ L h' m → News h₀ L h' ((a, starObj) :: news) → (∀ q ∈ news, q.1 < a) → Q (.ref a) { s with heap := h' }) : wpAny (model prog w) A (call (.type "object") []) Q E s := by
  refine callType_codes (Q₁ := fun obj s₁ => obj = .ref s.heap.objs.size ∧ s₁ = { s with heap := s.heap.push starObj }) Mine.F.called_object Mine.F.typeCall_object PySem.F.entry_object_init (code_object_new ⟨rfl, rfl⟩) ?_
  rintro obj s₁ ⟨rfl, rfl⟩
  refine ⟨⟨starObj, Heap.get?_push_size _ rfl, rfl⟩, Mine.F.initArgs_object _, ?_⟩
  show wpAny _ _ (ret .none) _ _ _
  refine wpAny_pure ⟨rfl, ?_⟩
  exact h _ _ (Fr.push F _) (N.push F _) fun p hp => Heap.lt_size (N p hp).1
end
end Mine
end -- IlG2
section -- IlF3
open PySem PySem.W PyProof.Rows PySem.Calls PySem.Spec
namespace Mine
theorem lines_IlF3L_1 : True := by
  k_with_none
  k_with "mine sub" => (first | exact fun _ h => h | exact fun _ h => .tail _ h | exact fun _ h => .tail _ (.tail _ h) | exact fun _ h => .tail _ (.tail _ (.tail _ h)) | exact fun _ h => .tail _ (.tail _ (.tail _ (.tail _ h))) | exact fun _ h => .tail _ (.tail _ (.tail _ (.tail _ (.tail _ h)))))
  k_with "mine eq" => (first | rfl | (subst_vars; rfl))
  k_with "mine end" => ((refine' ret_of (by assumption) _ ?q9e1 ?q9e2 ?q9e3 ?q9e4; (case q9e2 => k_asm); (case q9e3 => k_asm); (case q9e4 => walk_at "mine sub"); (case q9e1 => walk_at "mine eq"); (all_goals exact (0 : Nat))))
  k_with "mine endS" => ((refine' ret_of (by assumption) _ (veq ?_) ?q9e2 ?q9e3 ?q9e4; (case q9e2 => k_asm); (case q9e3 => k_asm); (case q9e4 => walk_at "mine sub")))
  k_with "mine lt" => (first | assumption | exact ktn_ltOf (by assumption))
  k_with "mine endT3" => ((refine' ret_ofT (by assumption) ?q9F ?q9N ?q9l ?q9s [(_, _), (_, _), (_, _)] ?q9o ?_; (case q9F => k_asm); (case q9N => k_asm); (case q9l => walk_at "mine lt"); (case q9s => walk_at "mine sub"); (case q9o => ((try simp only [w_nil, w_slash]); rfl))))
  k_with "mine endTT" => ((refine' ret_ofT (by assumption) ?q9F ?q9N ?q9l ?q9s _ ?q9o ?q9e; (case q9F => k_asm); (case q9N => k_asm); (case q9l => walk_at "mine lt"); (case q9s => walk_at "mine sub"); (case q9o => exact rfl); (case q9e => assumption)))
  k_with "mine endT2" => ((refine' ret_ofT (by assumption) ?q9F ?q9N ?q9l ?q9s [(_, _), (_, _)] ?q9o ?_; (case q9F => k_asm); (case q9N => k_asm); (case q9l => walk_at "mine lt"); (case q9s => walk_at "mine sub"); (case q9o => ((try simp only [w_nil, w_slash]); rfl))))
  k_with "mine enterT" => ((unfold CtT; intro dp un gd cn cs a ccd cl outer A₀ base h₀ L m news s Q E B F X N T hk hd hu hret; refine wpAny_call ?_; k_dflt cell_enter))
  k_with "mine enterR" => ((unfold Ct; intro dp un gd cn cs a ccd cl outer A₀ base h₀ L m news s Q E B F X N T hk hd hu hret; refine wpAny_call ?_; k_dflt (refine' kp_rest ?q9k1 ?q9k2 ?q9k3 ?q9k4 ?q9k5 ?q9kA ?q9kF ?q9kK ?q9k6 ?q9k7 ?q9k8 ?q9kV ?q9kP ?q9kG ?q9kB ?_ ?q9c2 ?q9c3 ?q9c4 ?q9c5; (case q9kA => exact rfl); (case q9kF => exact rfl); (case q9kK => assumption); (case q9k1 => k_asm); (case q9k2 => k_asm); (case q9k3 => k_asm); (case q9k4 => k_asm); (case q9k5 => k_asm); (case q9k6 => k_is); (case q9k7 => k_is); (case q9k8 => ktr_room); (case q9kV => kl_lit); (case q9kP => exact rfl); (case q9kG => exact fun _ => rfl); (case q9kB => exact fun _ => locs rfl); (case q9c5 => decide); (case q9c2 => exact rfl); (case q9c3 => exact rfl); (case q9c4 => exact rfl); k_whole); intro D' g' L' h' l1 FG' F' N' B' X' T'; (try k_lt l1); (try dsimp only); (try k_lift B'); (try k_fold)))
  k_with "mine enter" => ((unfold Ct; intro dp un gd cn cs a ccd cl outer A₀ base h₀ L m news s Q E B F X N T hk hd hu hret; refine wpAny_call ?_; k_dflt cell_enter))
  k_with "mine use" => (((case q9k1 => k_asm); (case q9k2 => k_asm); (case q9k3 => k_asm); (case q9k4 => k_asm); (case q9k5 => k_asm); (case q9kK => first | exact rfl | assumption); (case q9kd => ktr_room); (case q9ku => ktr_units); intro t9 h9 tk9 F9 N9; (try dsimp only); (try k_fold); (try k_sweep)))
  k_with "mine useT" => (((case q9k1 => k_asm); (case q9k2 => k_asm); (case q9k3 => k_asm); (case q9k4 => k_asm); (case q9k5 => k_asm); (case q9kK => first | exact rfl | assumption); (case q9kd => ktr_room); (case q9ku => ktr_units); intro D9 ps9 h9 tk9 e9 F9 N9 l9; (try k_lt l9); (try dsimp only); (try k_fold); (try k_sweep)))
  k_with "mine word" => (first | with_reducible exact w_slash | with_reducible exact w_dot | with_reducible exact w_dotdot | with_reducible exact w_nil | with_reducible rfl)
  k_with "mine len" => (first | assumption | lia | (simp only [List.length_take, List.length_drop, List.length_append, List.length_replicate, List.length_cons, List.length_nil]; lia))
  k_with "call builtin:issubclass" => ((k_here; k_dflt (refine' k_issub ?q9k1 ?q9k2 ?_; (case q9k1 => k_asm); (case q9k2 => k_mem); k_whole)))
  k_with "call builtin:str.rfind" => ((k_here; k_dflt (refine' t_rfind ?q9y ?_; (case q9y => walk_at "mine word"); k_whole); intro r' hr' h1' h2'))
  k_with "subscriptTail Name Slice str ref" => ((k_here; (with_reducible show wpAny _ _ (subscriptTail _ (Expr.Slice (some _) none none _) (Value.str (mkS _) _) _) _ _ _); k_dflt (refine' t_slice_from (s := ⟨_, _, _, _, _⟩) ?q9F ?q9N ?q9x ?q9i ?_ ?q9hs ?q9ht; (case q9F => k_asm); (case q9N => k_asm); (case q9x => walk_at "mine len"); (case q9i => walk_at "mine len"); (case q9hs => with_unfolding_all rfl); (case q9ht => intro _; with_unfolding_all rfl); k_whole); intro h' t' k' F' N'; (try k_sweep)))
  k_with "subscriptTail Name Slice str ref" => ((k_here; (with_reducible show wpAny _ _ (subscriptTail _ (Expr.Slice none (some _) none _) (Value.str (mkS _) _) _) _ _ _); k_dflt (refine' t_slice_to (s := ⟨_, _, _, _, _⟩) ?q9F ?q9N ?q9x ?q9i ?_ ?q9hs ?q9ht; (case q9F => k_asm); (case q9N => k_asm); (case q9x => walk_at "mine len"); (case q9i => walk_at "mine len"); (case q9hs => with_unfolding_all rfl); (case q9ht => intro _; with_unfolding_all rfl); k_whole); intro h' t' k' F' N'; (try k_sweep)))
  k_with "subscriptTail Name Slice str ref" => ((k_here; (with_reducible show wpAny _ _ (subscriptTail _ (Expr.Slice (some _) (some _) none _) (Value.str (mkS _) _) _) _ _ _); k_dflt (refine' t_slice_mid (s := ⟨_, _, _, _, _⟩) ?q9F ?q9N ?q9x ?q9i ?q9j ?_ ?q9hs ?q9ht; (case q9F => k_asm); (case q9N => k_asm); (case q9x => walk_at "mine len"); (case q9i => walk_at "mine len"); (case q9j => walk_at "mine len"); (case q9hs => with_unfolding_all rfl); (case q9ht => intro _; with_unfolding_all rfl); k_whole); intro h' t' k' F' N'; (try k_sweep)))
  k_with "truthy str" => ((k_here; (with_reducible show wpAny _ _ (PySem.truthy (Value.str (mkS _) _)) _ _ _); k_dflt (refine' t_truthy ?q9x ?_; (case q9x => walk_at "mine len"); k_whole); intro k'))
  k_with "call builtin:len" => ((k_here; (with_reducible show wpAny _ _ (call (Value.builtin "len") [Value.str (mkS _) _]) _ _ _); k_dflt (refine' t_len ?q9x ?_; (case q9x => walk_at "mine len"); k_whole); intro k'))
  k_with "compareOp NotEq str str" => ((k_here; (with_reducible show wpAny _ _ (compareOp CmpOp.NotEq (Value.str (mkS _) _) _) _ _ _); k_dflt (refine' t_ne ?q9y ?_; (case q9y => walk_at "mine word"); k_whole)))
  k_with "compareOp Eq str str" => ((k_here; (with_reducible show wpAny _ _ (compareOp CmpOp.Eq (Value.str (mkS _) _) _) _ _ _); k_dflt (refine' t_eq ?q9y ?_; (case q9y => walk_at "mine word"); k_whole)))
  k_with "binaryOp Add str str" => ((k_here; k_dflt (refine' t_add ?q9x ?q9y ?q9l ?_; (case q9x => walk_at "mine word"); (case q9y => walk_at "mine word"); (case q9l => walk_at "mine len"); k_whole); intro t' k'))
  k_with "binaryOp Mult str int" => ((k_here; k_dflt (refine' t_mul ?q9y ?q9a ?q9b ?_; (case q9y => walk_at "mine word"); (case q9a => walk_at "mine len"); (case q9b => walk_at "mine len"); k_whole); intro t' k'))
  k_with "call builtin:str.rstrip" => ((k_here; k_dflt (refine' t_rstrip ?q9y ?q9x ?_; (case q9y => walk_at "mine word"); (case q9x => walk_at "mine len"); k_whole); intro t' k'))
  k_with "call builtin:str.lstrip" => ((k_here; k_dflt (refine' t_lstrip ?q9y ?q9x ?_; (case q9y => walk_at "mine word"); (case q9x => walk_at "mine len"); k_whole); intro t' k'))
  k_with "call builtin:str.startswith" => ((k_here; k_dflt (refine' t_starts ?q9y ?_; (case q9y => walk_at "mine word"); k_whole)))
  k_with "call builtin:str.endswith" => ((k_here; k_dflt (refine' t_ends ?q9y ?_; (case q9y => walk_at "mine word"); k_whole)))
  k_with "call builtin:str.split" => ((k_here; k_dflt (refine' t_split ?q9F ?q9N ?q9y ?q9x ?_; (case q9F => k_asm); (case q9N => k_asm); (case q9y => walk_at "mine word"); (case q9x => walk_at "mine len"); k_whole); intro ps' h' k' e' F' N'; (try k_sweep)))
  k_with "call builtin:str.join" => ((k_here; k_dflt (refine' t_join ?q9N ?q9m ?q9y ?q9l ?_; (case q9N => k_asm); (case q9m => k_mem); (case q9y => walk_at "mine word"); (case q9l => walk_at "mine len"); k_whole); intro t' k'))
  k_with "subscriptTail Name Name str int" => ((k_here; (with_reducible show wpAny _ _ (subscriptTail _ _ (Value.str (mkS _) _) _) _ _ _); k_dflt (refine' t_item ?q9x ?q9i ?q9j ?_ ?q9hs ?q9ht; (case q9x => walk_at "mine len"); (case q9i => walk_at "mine len"); (case q9j => walk_at "mine len"); (case q9hs => with_unfolding_all rfl); (case q9ht => intro _; with_unfolding_all rfl); k_whole); intro c' hc'))
  k_with "exec While Compare cons nil" => ((k_here; k_extra "mine while"))
  k_with "IntTurn ret" => (dsimp only [IntTurn])
  k_with "IntTurn next" => ((refine' int_turn_next ?q9F ?q9N ?q9m ?q9P; (case q9F => k_asm); (case q9N => k_asm); (case q9m => k_extra "mine measure"); (case q9P => k_extra "mine state")))
  k_with "exec If" => ((k_here; k_extra "mine if"))
  k_with "exec For Name Name cons nil" => ((k_here; k_extra "mine for"))
  k_with "pyIter ref" => ((k_here; k_extra "mine iter"))
  k_with "LoopStep3 next" => ((k_extra "mine step"))
  k_with "inplaceOp Add str str" => ((k_here; k_dflt (refine' t_iadd ?q9x ?q9y ?q9l ?_; (case q9x => walk_at "mine word"); (case q9y => walk_at "mine word"); (case q9l => walk_at "mine len"); k_whole); intro t' k'))
  k_with "TurnEnd next" => ((refine' acc_next ?q9F ?q9N ?q9m ?q9hlt ?_; (case q9F => k_asm); (case q9N => k_asm); (case q9m => k_mem); (case q9hlt => assumption)))
  k_with "TurnEnd cont" => ((refine' acc_cont ?q9F ?q9N ?q9m ?q9hlt ?_; (case q9F => k_asm); (case q9N => k_asm); (case q9m => k_mem); (case q9hlt => assumption)))
  k_with "truthy ref" => ((k_here; k_dflt (refine' t_truthyL ?q9N ?q9m ?q9z ?_; (case q9N => k_asm); (case q9m => k_mem); (case q9z => walk_at "mine len"); k_whole); intro k'))
  k_with "subscriptTail Name UnaryOp ref int" => ((k_here; k_dflt (refine' t_last ?q9N ?q9m ?q9e ?q9z ?_ ?q9s; (case q9N => k_asm); (case q9m => k_mem); (case q9e => first | assumption | (simp_all; done)); (case q9z => walk_at "mine len"); (case q9s => with_unfolding_all rfl); k_whole); intro q' p' e'))
  k_with "call builtin:list.append" => ((k_here; k_dflt (refine' t_append ?q9F ?q9N ?q9y ?q9U ?q9z ?_; (case q9F => k_asm); (case q9N => k_asm); (case q9y => walk_at "mine word"); (case q9U => k_upd); (case q9z => walk_at "mine len"); k_whole); intro h' F' N'; (try k_sweep)))
  k_with "call builtin:list.pop" => ((k_here; k_dflt (refine' t_pop ?q9F ?q9N ?q9e ?q9U ?q9z ?_; (case q9F => k_asm); (case q9N => k_asm); (case q9e => first | assumption | (simp_all; done)); (case q9U => k_upd); (case q9z => walk_at "mine len"); k_whole); intro h' v' F' N'; (try k_sweep)))
  k_with "truthy str" => ((k_here; (with_reducible show wpAny _ _ (PySem.truthy (Value.str (mkS [_]) _)) _ _ _); k_dflt (refine t_truthy1 ?_); intro k'))
  k_with "formatField str" => ((k_here; k_dflt (refine' t_field ?q9x ?_; (case q9x => walk_at "mine len"); k_whole); intro t' k'))
  k_with "exec If" => ((k_here; refine wpAny_If ?_))
  k_with "mine word" => (first | with_reducible exact w_slash | with_reducible exact w_dot | with_reducible exact w_dotdot | with_reducible exact w_nil | with_reducible exact w_star | with_reducible exact w_quest | with_reducible exact w_open | with_reducible exact w_bang | with_reducible exact w_shut | with_reducible exact w_hyph | with_reducible exact w_bsl | with_reducible exact w_bsl2 | with_reducible exact w_never | with_reducible exact w_hat | with_reducible exact w_bopen | with_reducible exact w_dots | with_reducible exact w_lazy | with_reducible exact w_par | with_reducible exact w_pre | with_reducible exact w_end | with_reducible rfl)
  k_with "getAttr ref true" => ((k_here; k_dflt (refine' w_bound ?q9F ?q9N ?q9m ?_; (case q9F => k_asm); (case q9N => k_asm); (case q9m => k_mem); k_whole); intro b' h' k' F' N' l1; (try k_lt l1)))
  k_with "getAttr ref" => ((k_here; k_dflt (refine' w_bound ?q9F ?q9N ?q9m ?_; (case q9F => k_asm); (case q9N => k_asm); (case q9m => k_mem); k_whole); intro b' h' k' F' N' l1; (try k_lt l1)))
  k_with "exec While BoolOp cons nil" => ((k_here; k_extra "mine while"))
  k_with "StandsA" => (exact standsA (by k_asm) (by k_mem))
  k_with "callWith ref" => ((k_here; k_dflt (refine' callWith_boundA ?q9N ?q9m ?_; (case q9N => k_asm); (case q9m => k_mem); k_whole)))
  k_with "And" => (((with_reducible show StandsA _ _ _ ∧ _); refine ⟨standsA (by k_asm) (by k_mem), ?_⟩; try dsimp only [List.nil_append, List.cons_append]))
  k_with "compareOp NotIn str str" => ((k_here; k_dflt (refine' t_notin' ?q9y ?q9c ?_; (case q9y => walk_at "mine word"); (case q9c => k_extra "mine notin"); k_whole)))
  k_with "call builtin:str.replace" => ((k_here; k_dflt (refine' t_replace ?q9hu ?q9hv ?q9huv ?q9y ?q9z ?q9r ?q9yz ?q9x ?_; (case q9y => walk_at "mine word"); (case q9z => walk_at "mine word"); (case q9hu => exact Nat.succ_ne_zero _); (case q9hv => exact Nat.succ_ne_zero _); (case q9huv => exact Nat.ne_of_lt (Nat.lt_succ_self _)); (case q9r => decide); (case q9yz => decide +kernel); (case q9x => walk_at "mine len"); k_whole); intro t' k'))
  k_with "joinParts" => ((k_here; k_dflt (first
  | (refine' t_jp_cons ?q9o ?_; (case q9o => first | exact w_nil | with_reducible rfl | rfl); k_whole)
  | (refine' t_jp_nil ?q9x ?_; (case q9x => walk_at "mine len"); k_whole; intro t' k'))))
  k_with "Exists" => ((k_dflt (refine' ⟨_, ?q9y, ?q9l, ?_⟩; (case q9y => walk_at "mine word"); (case q9l => walk_at "mine len"); k_whole)))
  k_with "compareOp IsNot str ref" => ((k_here; refine wpAny_isNot_other (by rfl) (by intro x; cases x) ?_))
  k_with "compareOp IsNot ref ref" => ((k_here; refine wpAny_isNot_self (by rfl) ?_))
  k_with "subscriptTail Name Constant str int" => ((k_here; (with_reducible show wpAny _ _ (subscriptTail _ _ (Value.str (mkS _) _) _) _ _ _); k_dflt (refine' t_item ?q9x ?q9i ?q9j ?_ ?q9hs ?q9ht; (case q9x => walk_at "mine len"); (case q9i => walk_at "mine len"); (case q9j => k_extra "mine first"); (case q9hs => with_unfolding_all rfl); (case q9ht => intro _; with_unfolding_all rfl); k_whole); intro c' hc'))
  k_with "execs cons" => ((k_here; k_extra "mine toks"))
  k_with "compareOp Is str ref" => ((k_here; refine wpAny_is_other (by rfl) (by intro x; cases x) ?_))
  k_with "compareOp Is ref ref" => ((k_here; refine wpAny_is_self (by rfl) ?_))
  k_with "compareOp In str str" => ((k_here; k_dflt (refine' t_in ?q9y ?_; (case q9y => walk_at "mine word"); k_whole)))
  k_with "TTurn ret" => (dsimp only [TTurn])
  k_with "TJoin next" => ((k_here; k_dflt (refine' tjoin ?q9F ?q9N ?q9e ?q9hm ?q9hi ?_; (case q9F => k_asm); (case q9e => exact rfl); (case q9N => k_extra "mine ledger"); (case q9hm => (intro y h1 h2; (repeat (first | (with_reducible exact rfl) | refine ite_off (by assumption) ?_)); (try exact rfl))); (case q9hi => exact rfl))))
  k_with "TTurn brk" => (dsimp only [TTurn])
  k_with "TTurn next" => ((k_here; k_dflt (refine' tturn_next ?q9F ?q9N ?q9e ?q9hm ?q9hi ?_ ?_; (case q9F => k_asm); (case q9e => exact rfl); (case q9N => k_extra "mine ledger"); (case q9hm => (intro y h1 h2; (repeat (first | (with_reducible exact rfl) | refine ite_off (by assumption) ?_)); (try exact rfl))); (case q9hi => exact rfl))))
  k_with "mine sub" => (first | exact fun _ h => h | (refine fun p hp => ?_; repeat (first | exact hp | refine List.Mem.tail _ ?_)))
  trivial
theorem use_ctP {prog : Program} {w : World} {p : Program} {loose : List Str} {mean : ExcName → Option Value} {mg mb : Str → Option Value} {f : Addr} {d u : Nat} {vs : List Value} {S : Addr} {rs : List (Option (List Nat))} {dp un : Nat} {gd : Option (List Code)} {cn : Str} {cs : Scope} {a : Addr} {ccd : Value} {cl : List (Str × Addr)} {outer : List Env} {A₀ : Around} {base h₀ : Heap} {L : Addr} {m : Str → Option Value} {news : List (Addr × Obj)} {s : Shared} {Q E : Value → Shared → Prop} {st : Option (Addr × Obj)}
    (C : CtP prog w p loose mean mg mb f d u vs S rs) (B : Below A₀ base outer h₀) (F : Fr h₀ L s.heap m) (X : (K w.params).In h₀) (N : News h₀ L s.heap (tabL st ++ news)) (hst : OkTab lamQ st) (hn : ∀ q ∈ news, q.1 ≠ 71) (T : Top p loose mean mg mb h₀) (hk : cs.kind = .function) (hd : dp + d < recursionLimit) (hu : un + u < cLine) (hret : RetP h₀ L m news s Q S rs) :
    wpAny (model prog w) (ktrTop dp un gd cn cs L a ccd cl outer) (call (.ref f) vs) Q E s := C _ _ _ _ _ _ _ _ _ _ _ _ _ _ _ _ _ _ _ B F X N hst hn T hk hd hu hret
theorem use_ctN {prog : Program} {w : World} {p : Program} {loose : List Str} {mean : ExcName → Option Value} {mg mb : Str → Option Value} {H : List (Addr × Obj) → Prop} {f : Addr} {d u : Nat} {vs : List Value} {R : Tok → Value} {dp un : Nat} {gd : Option (List Code)} {cn : Str} {cs : Scope} {a : Addr} {ccd : Value} {cl : List (Str × Addr)} {outer : List Env} {A₀ : Around} {base h₀ : Heap} {L : Addr} {m : Str → Option Value} {news : List (Addr × Obj)} {s : Shared} {Q E : Value → Shared → Prop}
    (C : CtN prog w p loose mean mg mb H f d u vs R) (B : Below A₀ base outer h₀) (F : Fr h₀ L s.heap m) (X : (K w.params).In h₀) (N : News h₀ L s.heap news) (hH : H news) (T : Top p loose mean mg mb h₀) (hk : cs.kind = .function) (hd : dp + d < recursionLimit) (hu : un + u < cLine) (hret : Ret h₀ L m news s Q R) :
    wpAny (model prog w) (ktrTop dp un gd cn cs L a ccd cl outer) (call (.ref f) vs) Q E s := C _ _ _ _ _ _ _ _ _ _ _ _ _ _ _ _ _ _ B F X N hH T hk hd hu hret
theorem hn_cons {st : Option (Addr × Obj)} {news : List (Addr × Obj)} {a : Addr} {o : Obj} (l1 : ∀ q ∈ tabL st ++ news, q.1 < a) (hn : ∀ q ∈ news, q.1 ≠ 71) : ∀ q ∈ (a, o) :: news, q.1 ≠ 71 := by
  intro q hq
  rcases List.mem_cons.mp hq with rfl | hq
  · obtain ⟨o', ho⟩ := tab_mem st news
    exact Nat.ne_of_gt (l1 _ ho)
  · exact hn q hq
theorem news_less {h₀ h : Heap} {L : Addr} {q r : Addr × Obj} {a b : List (Addr × Obj)} (N : News h₀ L h (q :: (a ++ r :: b))) : News h₀ L h (a ++ b) := fun p hp => N p (.tail _ (by
  rcases List.mem_append.mp hp with h | h
  · exact List.mem_append_left _ h
  · exact List.mem_append_right _ (.tail _ h)))
theorem lines_IlF3_1 : True := by
  k_with "mine enterS" => ((unfold CtS; intro dp un gd cn cs a ccd cl outer A₀ base h₀ L m news s Q E st B F X N hst hn71 T hk hd hu hret; refine wpAny_call ?_; k_dflt cell_enter))
  k_with "call type:object" => ((k_here; k_dflt (refine' call_object ?q9F ?q9N ?_; (case q9F => k_asm); (case q9N => k_asm); k_whole); intro a' h' F' N' l1; (try k_sweep)))
  k_with "call ref" => ((k_here; k_extra "mine calls"))
  trivial
set_option maxHeartbeats 8000000 in
theorem c_translate (prog : Program) (w : World) (p : Program) (loose : List Str) (mean : ExcName → Option Value) (mg mb : Str → Option Value) (x : List Nat) (t : Tok) (hx : x.length ≤ 100000) (hy : 45 ∉ x) :
    CtS prog w p loose mean mg mb 57 6 80 [.str (mkS x) t] (fun t => .str (mkS (fnL x)) t) := by
  walk_at "mine enterS"
  k_with "mine calls" => refine Stop.go ?_
  k_steps
  refine Stop.of ?_
  rename Fr _ _ _ _ => F1
  rename News _ _ _ (_ :: _) => N1
  refine use_ctP (c_trans _ _ _ _ _ _ _ _ _ _ _ hx hy) (by assumption) F1 (by assumption) (news_swap N1) hst (hn_cons l1 hn71) (by assumption) rfl (by ktr_room) (by ktr_units) ?_
  intro D ps n st' h' tk' e hst' F' N'
  clear F1 N1
  have hc : ps.length ≤ 100000 := by rw [← fsts_len, e]; have := trans_count x; lia
  have hl : (leadT (fsts ps)).length ≤ 1000000 := by rw [e]; have := leadT_le (transL x); have := trans_w x; lia
  k_steps
  refine Stop.of ?_
  rename Fr _ _ _ _ => F2
  rename News _ _ _ _ => N2
  refine use_ctN (c_jparts _ _ _ _ _ _ _ _ _ _ _ hc hl (by rw [e]; exact trans_noadj x)) (by assumption) F2 (by assumption) N2 (.head _) (by assumption) rfl (by ktr_room) (by ktr_units) ?_
  intro t9 h9 tk9 F9 N9
  clear F2 N2
  k_steps
  rw [e]
  exact hret _ st' _ _ hst' (by k_asm) (news_less (by k_asm))

end Mine
end -- IlF3
section -- IlH1
open PySem PySem.W PyProof.Rows PySem.Calls PySem.Spec
namespace Mine
theorem lines_IlH1L_1 : True := by
  k_with_none
  k_with "mine sub" => (first | exact fun _ h => h | exact fun _ h => .tail _ h | exact fun _ h => .tail _ (.tail _ h) | exact fun _ h => .tail _ (.tail _ (.tail _ h)) | exact fun _ h => .tail _ (.tail _ (.tail _ (.tail _ h))) | exact fun _ h => .tail _ (.tail _ (.tail _ (.tail _ (.tail _ h)))))
  k_with "mine eq" => (first | rfl | (subst_vars; rfl))
  k_with "mine end" => ((refine' ret_of (by assumption) _ ?q9e1 ?q9e2 ?q9e3 ?q9e4; (case q9e2 => k_asm); (case q9e3 => k_asm); (case q9e4 => walk_at "mine sub"); (case q9e1 => walk_at "mine eq"); (all_goals exact (0 : Nat))))
  k_with "mine endS" => ((refine' ret_of (by assumption) _ (veq ?_) ?q9e2 ?q9e3 ?q9e4; (case q9e2 => k_asm); (case q9e3 => k_asm); (case q9e4 => walk_at "mine sub")))
  k_with "mine lt" => (first | assumption | exact ktn_ltOf (by assumption))
  k_with "mine endT3" => ((refine' ret_ofT (by assumption) ?q9F ?q9N ?q9l ?q9s [(_, _), (_, _), (_, _)] ?q9o ?_; (case q9F => k_asm); (case q9N => k_asm); (case q9l => walk_at "mine lt"); (case q9s => walk_at "mine sub"); (case q9o => ((try simp only [w_nil, w_slash]); rfl))))
  k_with "mine endTT" => ((refine' ret_ofT (by assumption) ?q9F ?q9N ?q9l ?q9s _ ?q9o ?q9e; (case q9F => k_asm); (case q9N => k_asm); (case q9l => walk_at "mine lt"); (case q9s => walk_at "mine sub"); (case q9o => exact rfl); (case q9e => assumption)))
  k_with "mine endT2" => ((refine' ret_ofT (by assumption) ?q9F ?q9N ?q9l ?q9s [(_, _), (_, _)] ?q9o ?_; (case q9F => k_asm); (case q9N => k_asm); (case q9l => walk_at "mine lt"); (case q9s => walk_at "mine sub"); (case q9o => ((try simp only [w_nil, w_slash]); rfl))))
  k_with "mine enterT" => ((unfold CtT; intro dp un gd cn cs a ccd cl outer A₀ base h₀ L m news s Q E B F X N T hk hd hu hret; refine wpAny_call ?_; k_dflt cell_enter))
  k_with "mine enterR" => ((unfold Ct; intro dp un gd cn cs a ccd cl outer A₀ base h₀ L m news s Q E B F X N T hk hd hu hret; refine wpAny_call ?_; k_dflt (refine' kp_rest ?q9k1 ?q9k2 ?q9k3 ?q9k4 ?q9k5 ?q9kA ?q9kF ?q9kK ?q9k6 ?q9k7 ?q9k8 ?q9kV ?q9kP ?q9kG ?q9kB ?_ ?q9c2 ?q9c3 ?q9c4 ?q9c5; (case q9kA => exact rfl); (case q9kF => exact rfl); (case q9kK => assumption); (case q9k1 => k_asm); (case q9k2 => k_asm); (case q9k3 => k_asm); (case q9k4 => k_asm); (case q9k5 => k_asm); (case q9k6 => k_is); (case q9k7 => k_is); (case q9k8 => ktr_room); (case q9kV => kl_lit); (case q9kP => exact rfl); (case q9kG => exact fun _ => rfl); (case q9kB => exact fun _ => locs rfl); (case q9c5 => decide); (case q9c2 => exact rfl); (case q9c3 => exact rfl); (case q9c4 => exact rfl); k_whole); intro D' g' L' h' l1 FG' F' N' B' X' T'; (try k_lt l1); (try dsimp only); (try k_lift B'); (try k_fold)))
  k_with "mine enter" => ((unfold Ct; intro dp un gd cn cs a ccd cl outer A₀ base h₀ L m news s Q E B F X N T hk hd hu hret; refine wpAny_call ?_; k_dflt cell_enter))
  k_with "mine use" => (((case q9k1 => k_asm); (case q9k2 => k_asm); (case q9k3 => k_asm); (case q9k4 => k_asm); (case q9k5 => k_asm); (case q9kK => first | exact rfl | assumption); (case q9kd => ktr_room); (case q9ku => ktr_units); intro t9 h9 tk9 F9 N9; (try dsimp only); (try k_fold); (try k_sweep)))
  k_with "mine useT" => (((case q9k1 => k_asm); (case q9k2 => k_asm); (case q9k3 => k_asm); (case q9k4 => k_asm); (case q9k5 => k_asm); (case q9kK => first | exact rfl | assumption); (case q9kd => ktr_room); (case q9ku => ktr_units); intro D9 ps9 h9 tk9 e9 F9 N9 l9; (try k_lt l9); (try dsimp only); (try k_fold); (try k_sweep)))
  k_with "mine word" => (first | with_reducible exact w_slash | with_reducible exact w_dot | with_reducible exact w_dotdot | with_reducible exact w_nil | with_reducible rfl)
  k_with "mine len" => (first | assumption | lia | (simp only [List.length_take, List.length_drop, List.length_append, List.length_replicate, List.length_cons, List.length_nil]; lia))
  k_with "call builtin:issubclass" => ((k_here; k_dflt (refine' k_issub ?q9k1 ?q9k2 ?_; (case q9k1 => k_asm); (case q9k2 => k_mem); k_whole)))
  k_with "call builtin:str.rfind" => ((k_here; k_dflt (refine' t_rfind ?q9y ?_; (case q9y => walk_at "mine word"); k_whole); intro r' hr' h1' h2'))
  k_with "subscriptTail Name Slice str ref" => ((k_here; (with_reducible show wpAny _ _ (subscriptTail _ (Expr.Slice (some _) none none _) (Value.str (mkS _) _) _) _ _ _); k_dflt (refine' t_slice_from (s := ⟨_, _, _, _, _⟩) ?q9F ?q9N ?q9x ?q9i ?_ ?q9hs ?q9ht; (case q9F => k_asm); (case q9N => k_asm); (case q9x => walk_at "mine len"); (case q9i => walk_at "mine len"); (case q9hs => with_unfolding_all rfl); (case q9ht => intro _; with_unfolding_all rfl); k_whole); intro h' t' k' F' N'; (try k_sweep)))
  k_with "subscriptTail Name Slice str ref" => ((k_here; (with_reducible show wpAny _ _ (subscriptTail _ (Expr.Slice none (some _) none _) (Value.str (mkS _) _) _) _ _ _); k_dflt (refine' t_slice_to (s := ⟨_, _, _, _, _⟩) ?q9F ?q9N ?q9x ?q9i ?_ ?q9hs ?q9ht; (case q9F => k_asm); (case q9N => k_asm); (case q9x => walk_at "mine len"); (case q9i => walk_at "mine len"); (case q9hs => with_unfolding_all rfl); (case q9ht => intro _; with_unfolding_all rfl); k_whole); intro h' t' k' F' N'; (try k_sweep)))
  k_with "subscriptTail Name Slice str ref" => ((k_here; (with_reducible show wpAny _ _ (subscriptTail _ (Expr.Slice (some _) (some _) none _) (Value.str (mkS _) _) _) _ _ _); k_dflt (refine' t_slice_mid (s := ⟨_, _, _, _, _⟩) ?q9F ?q9N ?q9x ?q9i ?q9j ?_ ?q9hs ?q9ht; (case q9F => k_asm); (case q9N => k_asm); (case q9x => walk_at "mine len"); (case q9i => walk_at "mine len"); (case q9j => walk_at "mine len"); (case q9hs => with_unfolding_all rfl); (case q9ht => intro _; with_unfolding_all rfl); k_whole); intro h' t' k' F' N'; (try k_sweep)))
  k_with "truthy str" => ((k_here; (with_reducible show wpAny _ _ (PySem.truthy (Value.str (mkS _) _)) _ _ _); k_dflt (refine' t_truthy ?q9x ?_; (case q9x => walk_at "mine len"); k_whole); intro k'))
  k_with "call builtin:len" => ((k_here; (with_reducible show wpAny _ _ (call (Value.builtin "len") [Value.str (mkS _) _]) _ _ _); k_dflt (refine' t_len ?q9x ?_; (case q9x => walk_at "mine len"); k_whole); intro k'))
  k_with "compareOp NotEq str str" => ((k_here; (with_reducible show wpAny _ _ (compareOp CmpOp.NotEq (Value.str (mkS _) _) _) _ _ _); k_dflt (refine' t_ne ?q9y ?_; (case q9y => walk_at "mine word"); k_whole)))
  k_with "compareOp Eq str str" => ((k_here; (with_reducible show wpAny _ _ (compareOp CmpOp.Eq (Value.str (mkS _) _) _) _ _ _); k_dflt (refine' t_eq ?q9y ?_; (case q9y => walk_at "mine word"); k_whole)))
  k_with "binaryOp Add str str" => ((k_here; k_dflt (refine' t_add ?q9x ?q9y ?q9l ?_; (case q9x => walk_at "mine word"); (case q9y => walk_at "mine word"); (case q9l => walk_at "mine len"); k_whole); intro t' k'))
  k_with "binaryOp Mult str int" => ((k_here; k_dflt (refine' t_mul ?q9y ?q9a ?q9b ?_; (case q9y => walk_at "mine word"); (case q9a => walk_at "mine len"); (case q9b => walk_at "mine len"); k_whole); intro t' k'))
  k_with "call builtin:str.rstrip" => ((k_here; k_dflt (refine' t_rstrip ?q9y ?q9x ?_; (case q9y => walk_at "mine word"); (case q9x => walk_at "mine len"); k_whole); intro t' k'))
  k_with "call builtin:str.lstrip" => ((k_here; k_dflt (refine' t_lstrip ?q9y ?q9x ?_; (case q9y => walk_at "mine word"); (case q9x => walk_at "mine len"); k_whole); intro t' k'))
  k_with "call builtin:str.startswith" => ((k_here; k_dflt (refine' t_starts ?q9y ?_; (case q9y => walk_at "mine word"); k_whole)))
  k_with "call builtin:str.endswith" => ((k_here; k_dflt (refine' t_ends ?q9y ?_; (case q9y => walk_at "mine word"); k_whole)))
  k_with "call builtin:str.split" => ((k_here; k_dflt (refine' t_split ?q9F ?q9N ?q9y ?q9x ?_; (case q9F => k_asm); (case q9N => k_asm); (case q9y => walk_at "mine word"); (case q9x => walk_at "mine len"); k_whole); intro ps' h' k' e' F' N'; (try k_sweep)))
  k_with "call builtin:str.join" => ((k_here; k_dflt (refine' t_join ?q9N ?q9m ?q9y ?q9l ?_; (case q9N => k_asm); (case q9m => k_mem); (case q9y => walk_at "mine word"); (case q9l => walk_at "mine len"); k_whole); intro t' k'))
  k_with "subscriptTail Name Name str int" => ((k_here; (with_reducible show wpAny _ _ (subscriptTail _ _ (Value.str (mkS _) _) _) _ _ _); k_dflt (refine' t_item ?q9x ?q9i ?q9j ?_ ?q9hs ?q9ht; (case q9x => walk_at "mine len"); (case q9i => walk_at "mine len"); (case q9j => walk_at "mine len"); (case q9hs => with_unfolding_all rfl); (case q9ht => intro _; with_unfolding_all rfl); k_whole); intro c' hc'))
  k_with "exec While Compare cons nil" => ((k_here; k_extra "mine while"))
  k_with "IntTurn ret" => (dsimp only [IntTurn])
  k_with "IntTurn next" => ((refine' int_turn_next ?q9F ?q9N ?q9m ?q9P; (case q9F => k_asm); (case q9N => k_asm); (case q9m => k_extra "mine measure"); (case q9P => k_extra "mine state")))
  k_with "exec If" => ((k_here; k_extra "mine if"))
  k_with "exec For Name Name cons nil" => ((k_here; k_extra "mine for"))
  k_with "pyIter ref" => ((k_here; k_extra "mine iter"))
  k_with "LoopStep3 next" => ((k_extra "mine step"))
  k_with "inplaceOp Add str str" => ((k_here; k_dflt (refine' t_iadd ?q9x ?q9y ?q9l ?_; (case q9x => walk_at "mine word"); (case q9y => walk_at "mine word"); (case q9l => walk_at "mine len"); k_whole); intro t' k'))
  k_with "TurnEnd next" => ((refine' acc_next ?q9F ?q9N ?q9m ?q9hlt ?_; (case q9F => k_asm); (case q9N => k_asm); (case q9m => k_mem); (case q9hlt => assumption)))
  k_with "TurnEnd cont" => ((refine' acc_cont ?q9F ?q9N ?q9m ?q9hlt ?_; (case q9F => k_asm); (case q9N => k_asm); (case q9m => k_mem); (case q9hlt => assumption)))
  k_with "truthy ref" => ((k_here; k_dflt (refine' t_truthyL ?q9N ?q9m ?q9z ?_; (case q9N => k_asm); (case q9m => k_mem); (case q9z => walk_at "mine len"); k_whole); intro k'))
  k_with "subscriptTail Name UnaryOp ref int" => ((k_here; k_dflt (refine' t_last ?q9N ?q9m ?q9e ?q9z ?_ ?q9s; (case q9N => k_asm); (case q9m => k_mem); (case q9e => first | assumption | (simp_all; done)); (case q9z => walk_at "mine len"); (case q9s => with_unfolding_all rfl); k_whole); intro q' p' e'))
  k_with "call builtin:list.append" => ((k_here; k_dflt (refine' t_append ?q9F ?q9N ?q9y ?q9U ?q9z ?_; (case q9F => k_asm); (case q9N => k_asm); (case q9y => walk_at "mine word"); (case q9U => k_upd); (case q9z => walk_at "mine len"); k_whole); intro h' F' N'; (try k_sweep)))
  k_with "call builtin:list.pop" => ((k_here; k_dflt (refine' t_pop ?q9F ?q9N ?q9e ?q9U ?q9z ?_; (case q9F => k_asm); (case q9N => k_asm); (case q9e => first | assumption | (simp_all; done)); (case q9U => k_upd); (case q9z => walk_at "mine len"); k_whole); intro h' v' F' N'; (try k_sweep)))
  k_with "truthy str" => ((k_here; (with_reducible show wpAny _ _ (PySem.truthy (Value.str (mkS [_]) _)) _ _ _); k_dflt (refine t_truthy1 ?_); intro k'))
  k_with "formatField str" => ((k_here; k_dflt (refine' t_field ?q9x ?_; (case q9x => walk_at "mine len"); k_whole); intro t' k'))
  k_with "exec If" => ((k_here; refine wpAny_If ?_))
  k_with "mine word" => (first | with_reducible exact w_slash | with_reducible exact w_dot | with_reducible exact w_dotdot | with_reducible exact w_nil | with_reducible exact w_star | with_reducible exact w_quest | with_reducible exact w_open | with_reducible exact w_bang | with_reducible exact w_shut | with_reducible exact w_hyph | with_reducible exact w_bsl | with_reducible exact w_bsl2 | with_reducible exact w_never | with_reducible exact w_hat | with_reducible exact w_bopen | with_reducible exact w_dots | with_reducible exact w_lazy | with_reducible exact w_par | with_reducible exact w_pre | with_reducible exact w_end | with_reducible rfl)
  k_with "getAttr ref true" => ((k_here; k_dflt (refine' w_bound ?q9F ?q9N ?q9m ?_; (case q9F => k_asm); (case q9N => k_asm); (case q9m => k_mem); k_whole); intro b' h' k' F' N' l1; (try k_lt l1)))
  k_with "getAttr ref" => ((k_here; k_dflt (refine' w_bound ?q9F ?q9N ?q9m ?_; (case q9F => k_asm); (case q9N => k_asm); (case q9m => k_mem); k_whole); intro b' h' k' F' N' l1; (try k_lt l1)))
  k_with "exec While BoolOp cons nil" => ((k_here; k_extra "mine while"))
  k_with "StandsA" => (exact standsA (by k_asm) (by k_mem))
  k_with "callWith ref" => ((k_here; k_dflt (refine' callWith_boundA ?q9N ?q9m ?_; (case q9N => k_asm); (case q9m => k_mem); k_whole)))
  k_with "And" => (((with_reducible show StandsA _ _ _ ∧ _); refine ⟨standsA (by k_asm) (by k_mem), ?_⟩; try dsimp only [List.nil_append, List.cons_append]))
  k_with "compareOp NotIn str str" => ((k_here; k_dflt (refine' t_notin' ?q9y ?q9c ?_; (case q9y => walk_at "mine word"); (case q9c => k_extra "mine notin"); k_whole)))
  k_with "call builtin:str.replace" => ((k_here; k_dflt (refine' t_replace ?q9hu ?q9hv ?q9huv ?q9y ?q9z ?q9r ?q9yz ?q9x ?_; (case q9y => walk_at "mine word"); (case q9z => walk_at "mine word"); (case q9hu => exact Nat.succ_ne_zero _); (case q9hv => exact Nat.succ_ne_zero _); (case q9huv => exact Nat.ne_of_lt (Nat.lt_succ_self _)); (case q9r => decide); (case q9yz => decide +kernel); (case q9x => walk_at "mine len"); k_whole); intro t' k'))
  k_with "joinParts" => ((k_here; k_dflt (first
  | (refine' t_jp_cons ?q9o ?_; (case q9o => first | exact w_nil | with_reducible rfl | rfl); k_whole)
  | (refine' t_jp_nil ?q9x ?_; (case q9x => walk_at "mine len"); k_whole; intro t' k'))))
  k_with "Exists" => ((k_dflt (refine' ⟨_, ?q9y, ?q9l, ?_⟩; (case q9y => walk_at "mine word"); (case q9l => walk_at "mine len"); k_whole)))
  k_with "compareOp IsNot str ref" => ((k_here; refine wpAny_isNot_other (by rfl) (by intro x; cases x) ?_))
  k_with "compareOp IsNot ref ref" => ((k_here; refine wpAny_isNot_self (by rfl) ?_))
  k_with "subscriptTail Name Constant str int" => ((k_here; (with_reducible show wpAny _ _ (subscriptTail _ _ (Value.str (mkS _) _) _) _ _ _); k_dflt (refine' t_item ?q9x ?q9i ?q9j ?_ ?q9hs ?q9ht; (case q9x => walk_at "mine len"); (case q9i => walk_at "mine len"); (case q9j => k_extra "mine first"); (case q9hs => with_unfolding_all rfl); (case q9ht => intro _; with_unfolding_all rfl); k_whole); intro c' hc'))
  k_with "execs cons" => ((k_here; k_extra "mine toks"))
  k_with "compareOp Is str ref" => ((k_here; refine wpAny_is_other (by rfl) (by intro x; cases x) ?_))
  k_with "compareOp Is ref ref" => ((k_here; refine wpAny_is_self (by rfl) ?_))
  k_with "compareOp In str str" => ((k_here; k_dflt (refine' t_in ?q9y ?_; (case q9y => walk_at "mine word"); k_whole)))
  k_with "TTurn ret" => (dsimp only [TTurn])
  k_with "TJoin next" => ((k_here; k_dflt (refine' tjoin ?q9F ?q9N ?q9e ?q9hm ?q9hi ?_; (case q9F => k_asm); (case q9e => exact rfl); (case q9N => k_extra "mine ledger"); (case q9hm => (intro y h1 h2; (repeat (first | (with_reducible exact rfl) | refine ite_off (by assumption) ?_)); (try exact rfl))); (case q9hi => exact rfl))))
  k_with "TTurn brk" => (dsimp only [TTurn])
  k_with "TTurn next" => ((k_here; k_dflt (refine' tturn_next ?q9F ?q9N ?q9e ?q9hm ?q9hi ?_ ?_; (case q9F => k_asm); (case q9e => exact rfl); (case q9N => k_extra "mine ledger"); (case q9hm => (intro y h1 h2; (repeat (first | (with_reducible exact rfl) | refine ite_off (by assumption) ?_)); (try exact rfl))); (case q9hi => exact rfl))))
  k_with "mine sub" => (first | exact fun _ h => h | (refine fun p hp => ?_; repeat (first | exact hp | refine List.Mem.tail _ ?_)))
  trivial
noncomputable def pieceT : List (List Nat) := [[47], [38], [63], [60], [42], [46], [98], [34], [46, 46], [91], [93], [62], [47, 47], [13, 124], [91, 33], [9, 10], [126, 94], [92], [63, 63, 47]]
noncomputable def pieceL (n : Nat) : List Nat := if n % 20 < 19 then pieceT.getD (n % 20) [] else [192 + n / 20 % 1000]
theorem vstr {x y : Str} {t : Tok} (e : x = y) : Value.str x t = Value.str y t := by rw [e]
theorem lines_IlH1_1 : True := by
  k_with "mine endV" => ((refine' ret_of (by assumption) _ (vstr ?_) ?q9e2 ?q9e3 ?q9e4; (case q9e2 => k_asm); (case q9e3 => k_asm); (case q9e4 => walk_at "mine sub")))
  trivial
noncomputable abbrev pieceS : List Str := [Str.ofString "/", Str.ofString "&", Str.ofString "?", Str.ofString "<", Str.ofString "*", Str.ofString ".", Str.ofString "b", Str.ofString "\"", Str.ofString "..", Str.ofString "[", Str.ofString "]", Str.ofString ">", Str.ofString "//", Str.ofString "\r|", Str.ofString "[!", Str.ofString "\t\n", Str.ofString "~^", Str.ofString "\\", Str.ofString "??/"]
theorem piece_all : ∀ r, r < 19 → pieceS.getD r Str.empty = mkS (pieceT.getD r []) := by decide +kernel
theorem fmod_nat (n k : Nat) : ((n : Int).fmod (k : Int)) = ((n % k : Nat) : Int) := by rw [Int.fmod_eq_emod_of_nonneg _ (by lia)]; rfl
theorem fdiv_nat (n k : Nat) : ((n : Int).fdiv (k : Int)) = ((n / k : Nat) : Int) := by rw [Int.fdiv_eq_ediv_of_nonneg _ (by lia)]; rfl
theorem piece_lo (n : Nat) (h : (n : Int).fmod 20 < 19) : pieceS.getD ((n : Int).fmod 20).toNat Str.empty = mkS (pieceL n) := by
  have e := fmod_nat n 20
  have e' : (n : Int).fmod 20 = ((n % 20 : Nat) : Int) := e
  rw [e'] at h ⊢
  rw [Int.toNat_natCast]
  have hr : n % 20 < 19 := by lia
  rw [piece_all _ hr]
  unfold pieceL
  rw [if_pos hr]
theorem piece_hi (n : Nat) (h : ¬ (n : Int).fmod 20 < 19) : ({ cps := #[(192 + ((n : Int).fdiv 20).fmod 1000).toNat] } : Str) = mkS (pieceL n) := by
  have e' : (n : Int).fmod 20 = ((n % 20 : Nat) : Int) := fmod_nat n 20
  have e2 : (n : Int).fdiv 20 = ((n / 20 : Nat) : Int) := fdiv_nat n 20
  have e3 : ((n / 20 : Nat) : Int).fmod 1000 = ((n / 20 % 1000 : Nat) : Int) := fmod_nat (n / 20) 1000
  rw [e'] at h
  rw [e2, e3]
  unfold pieceL
  rw [if_neg (by lia)]
  show Str.mk #[_] = Str.mk #[_]
  congr 2
set_option maxHeartbeats 8000000 in
theorem c_piece (prog : Program) (w : World) (p : Program) (loose : List Str) (mean : ExcName → Option Value) (mg mb : Str → Option Value) (n : Nat) (t : Tok) (hn : n ≤ 1000000) :
    Ct prog w p loose mean mg mb 271 1 16 [.int (n : Int) t] (fun t => .str (mkS (pieceL n)) t) := by
  walk_at "mine enter"
  k_steps
  · walk_at "mine endV"
    exact piece_lo n (by assumption)
  · walk_at "mine endV"
    exact piece_hi n (by assumption)

end Mine
end -- IlH1
section -- IlH2
open PySem PySem.W PyProof.Rows PySem.Calls PySem.Spec
namespace Mine
theorem lines_IlH2L_1 : True := by
  k_with_none
  k_with "mine sub" => (first | exact fun _ h => h | exact fun _ h => .tail _ h | exact fun _ h => .tail _ (.tail _ h) | exact fun _ h => .tail _ (.tail _ (.tail _ h)) | exact fun _ h => .tail _ (.tail _ (.tail _ (.tail _ h))) | exact fun _ h => .tail _ (.tail _ (.tail _ (.tail _ (.tail _ h)))))
  k_with "mine eq" => (first | rfl | (subst_vars; rfl))
  k_with "mine end" => ((refine' ret_of (by assumption) _ ?q9e1 ?q9e2 ?q9e3 ?q9e4; (case q9e2 => k_asm); (case q9e3 => k_asm); (case q9e4 => walk_at "mine sub"); (case q9e1 => walk_at "mine eq"); (all_goals exact (0 : Nat))))
  k_with "mine endS" => ((refine' ret_of (by assumption) _ (veq ?_) ?q9e2 ?q9e3 ?q9e4; (case q9e2 => k_asm); (case q9e3 => k_asm); (case q9e4 => walk_at "mine sub")))
  k_with "mine lt" => (first | assumption | exact ktn_ltOf (by assumption))
  k_with "mine endT3" => ((refine' ret_ofT (by assumption) ?q9F ?q9N ?q9l ?q9s [(_, _), (_, _), (_, _)] ?q9o ?_; (case q9F => k_asm); (case q9N => k_asm); (case q9l => walk_at "mine lt"); (case q9s => walk_at "mine sub"); (case q9o => ((try simp only [w_nil, w_slash]); rfl))))
  k_with "mine endTT" => ((refine' ret_ofT (by assumption) ?q9F ?q9N ?q9l ?q9s _ ?q9o ?q9e; (case q9F => k_asm); (case q9N => k_asm); (case q9l => walk_at "mine lt"); (case q9s => walk_at "mine sub"); (case q9o => exact rfl); (case q9e => assumption)))
  k_with "mine endT2" => ((refine' ret_ofT (by assumption) ?q9F ?q9N ?q9l ?q9s [(_, _), (_, _)] ?q9o ?_; (case q9F => k_asm); (case q9N => k_asm); (case q9l => walk_at "mine lt"); (case q9s => walk_at "mine sub"); (case q9o => ((try simp only [w_nil, w_slash]); rfl))))
  k_with "mine enterT" => ((unfold CtT; intro dp un gd cn cs a ccd cl outer A₀ base h₀ L m news s Q E B F X N T hk hd hu hret; refine wpAny_call ?_; k_dflt cell_enter))
  k_with "mine enterR" => ((unfold Ct; intro dp un gd cn cs a ccd cl outer A₀ base h₀ L m news s Q E B F X N T hk hd hu hret; refine wpAny_call ?_; k_dflt (refine' kp_rest ?q9k1 ?q9k2 ?q9k3 ?q9k4 ?q9k5 ?q9kA ?q9kF ?q9kK ?q9k6 ?q9k7 ?q9k8 ?q9kV ?q9kP ?q9kG ?q9kB ?_ ?q9c2 ?q9c3 ?q9c4 ?q9c5; (case q9kA => exact rfl); (case q9kF => exact rfl); (case q9kK => assumption); (case q9k1 => k_asm); (case q9k2 => k_asm); (case q9k3 => k_asm); (case q9k4 => k_asm); (case q9k5 => k_asm); (case q9k6 => k_is); (case q9k7 => k_is); (case q9k8 => ktr_room); (case q9kV => kl_lit); (case q9kP => exact rfl); (case q9kG => exact fun _ => rfl); (case q9kB => exact fun _ => locs rfl); (case q9c5 => decide); (case q9c2 => exact rfl); (case q9c3 => exact rfl); (case q9c4 => exact rfl); k_whole); intro D' g' L' h' l1 FG' F' N' B' X' T'; (try k_lt l1); (try dsimp only); (try k_lift B'); (try k_fold)))
  k_with "mine enter" => ((unfold Ct; intro dp un gd cn cs a ccd cl outer A₀ base h₀ L m news s Q E B F X N T hk hd hu hret; refine wpAny_call ?_; k_dflt cell_enter))
  k_with "mine use" => (((case q9k1 => k_asm); (case q9k2 => k_asm); (case q9k3 => k_asm); (case q9k4 => k_asm); (case q9k5 => k_asm); (case q9kK => first | exact rfl | assumption); (case q9kd => ktr_room); (case q9ku => ktr_units); intro t9 h9 tk9 F9 N9; (try dsimp only); (try k_fold); (try k_sweep)))
  k_with "mine useT" => (((case q9k1 => k_asm); (case q9k2 => k_asm); (case q9k3 => k_asm); (case q9k4 => k_asm); (case q9k5 => k_asm); (case q9kK => first | exact rfl | assumption); (case q9kd => ktr_room); (case q9ku => ktr_units); intro D9 ps9 h9 tk9 e9 F9 N9 l9; (try k_lt l9); (try dsimp only); (try k_fold); (try k_sweep)))
  k_with "mine word" => (first | with_reducible exact w_slash | with_reducible exact w_dot | with_reducible exact w_dotdot | with_reducible exact w_nil | with_reducible rfl)
  k_with "mine len" => (first | assumption | lia | (simp only [List.length_take, List.length_drop, List.length_append, List.length_replicate, List.length_cons, List.length_nil]; lia))
  k_with "call builtin:issubclass" => ((k_here; k_dflt (refine' k_issub ?q9k1 ?q9k2 ?_; (case q9k1 => k_asm); (case q9k2 => k_mem); k_whole)))
  k_with "call builtin:str.rfind" => ((k_here; k_dflt (refine' t_rfind ?q9y ?_; (case q9y => walk_at "mine word"); k_whole); intro r' hr' h1' h2'))
  k_with "subscriptTail Name Slice str ref" => ((k_here; (with_reducible show wpAny _ _ (subscriptTail _ (Expr.Slice (some _) none none _) (Value.str (mkS _) _) _) _ _ _); k_dflt (refine' t_slice_from (s := ⟨_, _, _, _, _⟩) ?q9F ?q9N ?q9x ?q9i ?_ ?q9hs ?q9ht; (case q9F => k_asm); (case q9N => k_asm); (case q9x => walk_at "mine len"); (case q9i => walk_at "mine len"); (case q9hs => with_unfolding_all rfl); (case q9ht => intro _; with_unfolding_all rfl); k_whole); intro h' t' k' F' N'; (try k_sweep)))
  k_with "subscriptTail Name Slice str ref" => ((k_here; (with_reducible show wpAny _ _ (subscriptTail _ (Expr.Slice none (some _) none _) (Value.str (mkS _) _) _) _ _ _); k_dflt (refine' t_slice_to (s := ⟨_, _, _, _, _⟩) ?q9F ?q9N ?q9x ?q9i ?_ ?q9hs ?q9ht; (case q9F => k_asm); (case q9N => k_asm); (case q9x => walk_at "mine len"); (case q9i => walk_at "mine len"); (case q9hs => with_unfolding_all rfl); (case q9ht => intro _; with_unfolding_all rfl); k_whole); intro h' t' k' F' N'; (try k_sweep)))
  k_with "subscriptTail Name Slice str ref" => ((k_here; (with_reducible show wpAny _ _ (subscriptTail _ (Expr.Slice (some _) (some _) none _) (Value.str (mkS _) _) _) _ _ _); k_dflt (refine' t_slice_mid (s := ⟨_, _, _, _, _⟩) ?q9F ?q9N ?q9x ?q9i ?q9j ?_ ?q9hs ?q9ht; (case q9F => k_asm); (case q9N => k_asm); (case q9x => walk_at "mine len"); (case q9i => walk_at "mine len"); (case q9j => walk_at "mine len"); (case q9hs => with_unfolding_all rfl); (case q9ht => intro _; with_unfolding_all rfl); k_whole); intro h' t' k' F' N'; (try k_sweep)))
  k_with "truthy str" => ((k_here; (with_reducible show wpAny _ _ (PySem.truthy (Value.str (mkS _) _)) _ _ _); k_dflt (refine' t_truthy ?q9x ?_; (case q9x => walk_at "mine len"); k_whole); intro k'))
  k_with "call builtin:len" => ((k_here; (with_reducible show wpAny _ _ (call (Value.builtin "len") [Value.str (mkS _) _]) _ _ _); k_dflt (refine' t_len ?q9x ?_; (case q9x => walk_at "mine len"); k_whole); intro k'))
  k_with "compareOp NotEq str str" => ((k_here; (with_reducible show wpAny _ _ (compareOp CmpOp.NotEq (Value.str (mkS _) _) _) _ _ _); k_dflt (refine' t_ne ?q9y ?_; (case q9y => walk_at "mine word"); k_whole)))
  k_with "compareOp Eq str str" => ((k_here; (with_reducible show wpAny _ _ (compareOp CmpOp.Eq (Value.str (mkS _) _) _) _ _ _); k_dflt (refine' t_eq ?q9y ?_; (case q9y => walk_at "mine word"); k_whole)))
  k_with "binaryOp Add str str" => ((k_here; k_dflt (refine' t_add ?q9x ?q9y ?q9l ?_; (case q9x => walk_at "mine word"); (case q9y => walk_at "mine word"); (case q9l => walk_at "mine len"); k_whole); intro t' k'))
  k_with "binaryOp Mult str int" => ((k_here; k_dflt (refine' t_mul ?q9y ?q9a ?q9b ?_; (case q9y => walk_at "mine word"); (case q9a => walk_at "mine len"); (case q9b => walk_at "mine len"); k_whole); intro t' k'))
  k_with "call builtin:str.rstrip" => ((k_here; k_dflt (refine' t_rstrip ?q9y ?q9x ?_; (case q9y => walk_at "mine word"); (case q9x => walk_at "mine len"); k_whole); intro t' k'))
  k_with "call builtin:str.lstrip" => ((k_here; k_dflt (refine' t_lstrip ?q9y ?q9x ?_; (case q9y => walk_at "mine word"); (case q9x => walk_at "mine len"); k_whole); intro t' k'))
  k_with "call builtin:str.startswith" => ((k_here; k_dflt (refine' t_starts ?q9y ?_; (case q9y => walk_at "mine word"); k_whole)))
  k_with "call builtin:str.endswith" => ((k_here; k_dflt (refine' t_ends ?q9y ?_; (case q9y => walk_at "mine word"); k_whole)))
  k_with "call builtin:str.split" => ((k_here; k_dflt (refine' t_split ?q9F ?q9N ?q9y ?q9x ?_; (case q9F => k_asm); (case q9N => k_asm); (case q9y => walk_at "mine word"); (case q9x => walk_at "mine len"); k_whole); intro ps' h' k' e' F' N'; (try k_sweep)))
  k_with "call builtin:str.join" => ((k_here; k_dflt (refine' t_join ?q9N ?q9m ?q9y ?q9l ?_; (case q9N => k_asm); (case q9m => k_mem); (case q9y => walk_at "mine word"); (case q9l => walk_at "mine len"); k_whole); intro t' k'))
  k_with "subscriptTail Name Name str int" => ((k_here; (with_reducible show wpAny _ _ (subscriptTail _ _ (Value.str (mkS _) _) _) _ _ _); k_dflt (refine' t_item ?q9x ?q9i ?q9j ?_ ?q9hs ?q9ht; (case q9x => walk_at "mine len"); (case q9i => walk_at "mine len"); (case q9j => walk_at "mine len"); (case q9hs => with_unfolding_all rfl); (case q9ht => intro _; with_unfolding_all rfl); k_whole); intro c' hc'))
  k_with "exec While Compare cons nil" => ((k_here; k_extra "mine while"))
  k_with "IntTurn ret" => (dsimp only [IntTurn])
  k_with "IntTurn next" => ((refine' int_turn_next ?q9F ?q9N ?q9m ?q9P; (case q9F => k_asm); (case q9N => k_asm); (case q9m => k_extra "mine measure"); (case q9P => k_extra "mine state")))
  k_with "exec If" => ((k_here; k_extra "mine if"))
  k_with "exec For Name Name cons nil" => ((k_here; k_extra "mine for"))
  k_with "pyIter ref" => ((k_here; k_extra "mine iter"))
  k_with "LoopStep3 next" => ((k_extra "mine step"))
  k_with "inplaceOp Add str str" => ((k_here; k_dflt (refine' t_iadd ?q9x ?q9y ?q9l ?_; (case q9x => walk_at "mine word"); (case q9y => walk_at "mine word"); (case q9l => walk_at "mine len"); k_whole); intro t' k'))
  k_with "TurnEnd next" => ((refine' acc_next ?q9F ?q9N ?q9m ?q9hlt ?_; (case q9F => k_asm); (case q9N => k_asm); (case q9m => k_mem); (case q9hlt => assumption)))
  k_with "TurnEnd cont" => ((refine' acc_cont ?q9F ?q9N ?q9m ?q9hlt ?_; (case q9F => k_asm); (case q9N => k_asm); (case q9m => k_mem); (case q9hlt => assumption)))
  k_with "truthy ref" => ((k_here; k_dflt (refine' t_truthyL ?q9N ?q9m ?q9z ?_; (case q9N => k_asm); (case q9m => k_mem); (case q9z => walk_at "mine len"); k_whole); intro k'))
  k_with "subscriptTail Name UnaryOp ref int" => ((k_here; k_dflt (refine' t_last ?q9N ?q9m ?q9e ?q9z ?_ ?q9s; (case q9N => k_asm); (case q9m => k_mem); (case q9e => first | assumption | (simp_all; done)); (case q9z => walk_at "mine len"); (case q9s => with_unfolding_all rfl); k_whole); intro q' p' e'))
  k_with "call builtin:list.append" => ((k_here; k_dflt (refine' t_append ?q9F ?q9N ?q9y ?q9U ?q9z ?_; (case q9F => k_asm); (case q9N => k_asm); (case q9y => walk_at "mine word"); (case q9U => k_upd); (case q9z => walk_at "mine len"); k_whole); intro h' F' N'; (try k_sweep)))
  k_with "call builtin:list.pop" => ((k_here; k_dflt (refine' t_pop ?q9F ?q9N ?q9e ?q9U ?q9z ?_; (case q9F => k_asm); (case q9N => k_asm); (case q9e => first | assumption | (simp_all; done)); (case q9U => k_upd); (case q9z => walk_at "mine len"); k_whole); intro h' v' F' N'; (try k_sweep)))
  k_with "truthy str" => ((k_here; (with_reducible show wpAny _ _ (PySem.truthy (Value.str (mkS [_]) _)) _ _ _); k_dflt (refine t_truthy1 ?_); intro k'))
  k_with "formatField str" => ((k_here; k_dflt (refine' t_field ?q9x ?_; (case q9x => walk_at "mine len"); k_whole); intro t' k'))
  k_with "exec If" => ((k_here; refine wpAny_If ?_))
  k_with "mine word" => (first | with_reducible exact w_slash | with_reducible exact w_dot | with_reducible exact w_dotdot | with_reducible exact w_nil | with_reducible exact w_star | with_reducible exact w_quest | with_reducible exact w_open | with_reducible exact w_bang | with_reducible exact w_shut | with_reducible exact w_hyph | with_reducible exact w_bsl | with_reducible exact w_bsl2 | with_reducible exact w_never | with_reducible exact w_hat | with_reducible exact w_bopen | with_reducible exact w_dots | with_reducible exact w_lazy | with_reducible exact w_par | with_reducible exact w_pre | with_reducible exact w_end | with_reducible rfl)
  k_with "getAttr ref true" => ((k_here; k_dflt (refine' w_bound ?q9F ?q9N ?q9m ?_; (case q9F => k_asm); (case q9N => k_asm); (case q9m => k_mem); k_whole); intro b' h' k' F' N' l1; (try k_lt l1)))
  k_with "getAttr ref" => ((k_here; k_dflt (refine' w_bound ?q9F ?q9N ?q9m ?_; (case q9F => k_asm); (case q9N => k_asm); (case q9m => k_mem); k_whole); intro b' h' k' F' N' l1; (try k_lt l1)))
  k_with "exec While BoolOp cons nil" => ((k_here; k_extra "mine while"))
  k_with "StandsA" => (exact standsA (by k_asm) (by k_mem))
  k_with "callWith ref" => ((k_here; k_dflt (refine' callWith_boundA ?q9N ?q9m ?_; (case q9N => k_asm); (case q9m => k_mem); k_whole)))
  k_with "And" => (((with_reducible show StandsA _ _ _ ∧ _); refine ⟨standsA (by k_asm) (by k_mem), ?_⟩; try dsimp only [List.nil_append, List.cons_append]))
  k_with "compareOp NotIn str str" => ((k_here; k_dflt (refine' t_notin' ?q9y ?q9c ?_; (case q9y => walk_at "mine word"); (case q9c => k_extra "mine notin"); k_whole)))
  k_with "call builtin:str.replace" => ((k_here; k_dflt (refine' t_replace ?q9hu ?q9hv ?q9huv ?q9y ?q9z ?q9r ?q9yz ?q9x ?_; (case q9y => walk_at "mine word"); (case q9z => walk_at "mine word"); (case q9hu => exact Nat.succ_ne_zero _); (case q9hv => exact Nat.succ_ne_zero _); (case q9huv => exact Nat.ne_of_lt (Nat.lt_succ_self _)); (case q9r => decide); (case q9yz => decide +kernel); (case q9x => walk_at "mine len"); k_whole); intro t' k'))
  k_with "joinParts" => ((k_here; k_dflt (first
  | (refine' t_jp_cons ?q9o ?_; (case q9o => first | exact w_nil | with_reducible rfl | rfl); k_whole)
  | (refine' t_jp_nil ?q9x ?_; (case q9x => walk_at "mine len"); k_whole; intro t' k'))))
  k_with "Exists" => ((k_dflt (refine' ⟨_, ?q9y, ?q9l, ?_⟩; (case q9y => walk_at "mine word"); (case q9l => walk_at "mine len"); k_whole)))
  k_with "compareOp IsNot str ref" => ((k_here; refine wpAny_isNot_other (by rfl) (by intro x; cases x) ?_))
  k_with "compareOp IsNot ref ref" => ((k_here; refine wpAny_isNot_self (by rfl) ?_))
  k_with "subscriptTail Name Constant str int" => ((k_here; (with_reducible show wpAny _ _ (subscriptTail _ _ (Value.str (mkS _) _) _) _ _ _); k_dflt (refine' t_item ?q9x ?q9i ?q9j ?_ ?q9hs ?q9ht; (case q9x => walk_at "mine len"); (case q9i => walk_at "mine len"); (case q9j => k_extra "mine first"); (case q9hs => with_unfolding_all rfl); (case q9ht => intro _; with_unfolding_all rfl); k_whole); intro c' hc'))
  k_with "execs cons" => ((k_here; k_extra "mine toks"))
  k_with "compareOp Is str ref" => ((k_here; refine wpAny_is_other (by rfl) (by intro x; cases x) ?_))
  k_with "compareOp Is ref ref" => ((k_here; refine wpAny_is_self (by rfl) ?_))
  k_with "compareOp In str str" => ((k_here; k_dflt (refine' t_in ?q9y ?_; (case q9y => walk_at "mine word"); k_whole)))
  k_with "TTurn ret" => (dsimp only [TTurn])
  k_with "TJoin next" => ((k_here; k_dflt (refine' tjoin ?q9F ?q9N ?q9e ?q9hm ?q9hi ?_; (case q9F => k_asm); (case q9e => exact rfl); (case q9N => k_extra "mine ledger"); (case q9hm => (intro y h1 h2; (repeat (first | (with_reducible exact rfl) | refine ite_off (by assumption) ?_)); (try exact rfl))); (case q9hi => exact rfl))))
  k_with "TTurn brk" => (dsimp only [TTurn])
  k_with "TTurn next" => ((k_here; k_dflt (refine' tturn_next ?q9F ?q9N ?q9e ?q9hm ?q9hi ?_ ?_; (case q9F => k_asm); (case q9e => exact rfl); (case q9N => k_extra "mine ledger"); (case q9hm => (intro y h1 h2; (repeat (first | (with_reducible exact rfl) | refine ite_off (by assumption) ?_)); (try exact rfl))); (case q9hi => exact rfl))))
  k_with "mine sub" => (first | exact fun _ h => h | (refine fun p hp => ?_; repeat (first | exact hp | refine List.Mem.tail _ ?_)))
  trivial
noncomputable def TabO (prog : Program) (w : World) (o : Obj) (tbl : List (Nat × List Nat)) : Prop := ∃ kvs, o.IsDictOf (PySem.strKind prog w) kvs ∧ PyProof.V.FlatPairs PyData.str kvs (tbl.map fun p => (PyData.str (mkS [p.1]), PyData.str (mkS p.2)))
noncomputable def tblAttribD : List (Nat × List Nat) := [(38, [38, 97, 109, 112, 59]), (60, [38, 108, 116, 59]), (34, [38, 113, 117, 111, 116, 59]), (13, [38, 35, 120, 68, 59]), (10, [38, 35, 120, 65, 59]), (9, [38, 35, 120, 57, 59])]
noncomputable def tblL (k : Int) : List (Nat × List Nat) := if k = 0 then tblCdata else if k = 3 then tblAttrib else if k = 5 then tblHtml else if k = 7 then tblCdataC else tblAttribD
noncomputable def RetD (prog : Program) (w : World) (h₀ : Heap) (L : Addr) (m : Str → Option Value) (news : List (Addr × Obj)) (s : Shared) (Q : Value → Shared → Prop) (tbl : List (Nat × List Nat)) : Prop :=
  ∀ (D : Addr) (o : Obj) (h' : Heap) (tk' : Nat), (D == sysModules) = false → TabO prog w o tbl → Fr h₀ L h' m → News h₀ L h' ((D, o) :: news) → (∀ q ∈ news, q.1 < D) → Q (.ref D) { s with heap := h', toks := tk' }
noncomputable abbrev CtD (prog : Program) (w : World) (p : Program) (loose : List Str) (mean : ExcName → Option Value) (mg mb : Str → Option Value) (f : Addr) (d u : Nat) (vs : List Value) (tbl : List (Nat × List Nat)) : Prop :=
  ∀ (dp un : Nat) (gd : Option (List Code)) (cn : Str) (cs : Scope) (a : Addr) (ccd : Value) (cl : List (Str × Addr)) (outer : List Env) (A₀ : Around) (base h₀ : Heap) (L : Addr) (m : Str → Option Value) (news : List (Addr × Obj)) (s : Shared) (Q E : Value → Shared → Prop),
    Below A₀ base outer h₀ → Fr h₀ L s.heap m → (K w.params).In h₀ → News h₀ L s.heap news → Top p loose mean mg mb h₀ → cs.kind = .function →
    dp + d < recursionLimit → un + u < cLine → RetD prog w h₀ L m news s Q tbl →
    wpAny (model prog w) (ktrTop dp un gd cn cs L a ccd cl outer) (call (.ref f) vs) Q E s
theorem tblL_0 {k : Int} (h : k = 0) : tblL k = tblCdata := by unfold tblL; rw [if_pos h]
theorem tblL_3 {k : Int} (h0 : ¬ k = 0) (h : k = 3) : tblL k = tblAttrib := by unfold tblL; rw [if_neg h0, if_pos h]
theorem tblL_5 {k : Int} (h0 : ¬ k = 0) (h1 : ¬ k = 3) (h : k = 5) : tblL k = tblHtml := by unfold tblL; rw [if_neg h0, if_neg h1, if_pos h]
theorem tblL_7 {k : Int} (h0 : ¬ k = 0) (h1 : ¬ k = 3) (h2 : ¬ k = 5) (h : k = 7) : tblL k = tblCdataC := by unfold tblL; rw [if_neg h0, if_neg h1, if_neg h2, if_pos h]
theorem tblL_9 {k : Int} (h0 : ¬ k = 0) (h1 : ¬ k = 3) (h2 : ¬ k = 5) (h : ¬ k = 7) : tblL k = tblAttribD := by unfold tblL; rw [if_neg h0, if_neg h1, if_neg h2, if_neg h]
theorem sd_nil : strData [] = ([] : List (Nat × List Nat)).map fun p => (PyData.str (mkS [p.1]), PyData.str (mkS p.2)) := rfl
theorem sd_cons {a a' : Str} {t u : Tok} {c : Nat} {r : List Nat} {vs : List (Value × Value)} {tbl : List (Nat × List Nat)} (e1 : a = mkS [c]) (e2 : a' = mkS r) (h : strData vs = tbl.map fun p => (PyData.str (mkS [p.1]), PyData.str (mkS p.2))) :
    strData ((.str a t, .str a' u) :: vs) = ((c, r) :: tbl).map fun p => (PyData.str (mkS [p.1]), PyData.str (mkS p.2)) := by subst e1 e2; rw [List.map_cons, ← h]; rfl
theorem tab_cast {prog : Program} {w : World} {o : Obj} {tbl tbl' : List (Nat × List Nat)} (e : tbl' = tbl) (h : TabO prog w o tbl) : TabO prog w o tbl' := e ▸ h
theorem tabO_of {prog : Program} {w : World} {o : Obj} {kvs : List (Str × Value)} {D : List (PyData × PyData)} {tbl : List (Nat × List Nat)} (hd : o.IsDictOf (PySem.strKind prog w) kvs) (hf : PyProof.V.FlatPairs PyData.str kvs D) (e : D = tbl.map fun p => (PyData.str (mkS [p.1]), PyData.str (mkS p.2))) : TabO prog w o tbl := ⟨kvs, hd, e ▸ hf⟩
theorem lines_IlH2_1 : True := by
  k_with "mine enterD" => ((unfold CtD; intro dp un gd cn cs a ccd cl outer A₀ base h₀ L m news s Q E B F X N T hk hd hu hret; refine wpAny_call ?_; k_dflt cell_enter))
  trivial
set_option maxHeartbeats 8000000 in
theorem c_table (prog : Program) (w : World) (p : Program) (loose : List Str) (mean : ExcName → Option Value) (mg mb : Str → Option Value) (k : Int) (t : Tok) :
    CtD prog w p loose mean mg mb 285 1 16 [.int k t] (tblL k) := by
  walk_at "mine enterD"
  k_steps
  · exact hret _ _ _ _ (by assumption) (tab_cast (tblL_0 (by assumption)) (tabO_of (by assumption) (by assumption) (sd_cons w_amp w_amp' (sd_cons w_lt w_lt' (sd_cons w_gt w_gt' sd_nil))))) (by k_asm) (by k_asm) (by assumption)
  · exact hret _ _ _ _ (by assumption) (tab_cast (tblL_3 (by assumption) (by assumption)) (tabO_of (by assumption) (by assumption) (sd_cons w_amp w_amp' (sd_cons w_lt w_lt' (sd_cons w_gt w_gt' (sd_cons w_quot w_quot' (sd_cons w_cr w_cr1 (sd_cons w_lf w_lf1 (sd_cons w_tab w_tab1 sd_nil))))))))) (by k_asm) (by k_asm) (by assumption)
  · exact hret _ _ _ _ (by assumption) (tab_cast (tblL_5 (by assumption) (by assumption) (by assumption)) (tabO_of (by assumption) (by assumption) (sd_cons w_amp w_amp' (sd_cons w_gt w_gt' (sd_cons w_quot w_quot' sd_nil))))) (by k_asm) (by k_asm) (by assumption)
  · exact hret _ _ _ _ (by assumption) (tab_cast (tblL_7 (by assumption) (by assumption) (by assumption) (by assumption)) (tabO_of (by assumption) (by assumption) (sd_cons w_amp w_amp' (sd_cons w_lt w_lt' (sd_cons w_gt w_gt' (sd_cons w_cr w_cr2 sd_nil)))))) (by k_asm) (by k_asm) (by assumption)
  · exact hret _ _ _ _ (by assumption) (tab_cast (tblL_9 (by assumption) (by assumption) (by assumption) (by assumption)) (tabO_of (by assumption) (by assumption) (sd_cons w_amp w_amp' (sd_cons w_lt w_lt' (sd_cons w_quot w_quot' (sd_cons w_cr w_cr2 (sd_cons w_lf w_lf2 (sd_cons w_tab w_tab2 sd_nil)))))))) (by k_asm) (by k_asm) (by assumption)

end Mine
end -- IlH2
section -- IlK1
theorem Mine.none_IlK1 : True := by
  k_with_none
  trivial
open PySem PySem.W PyProof.Rows PySem.Calls PySem.Spec PySem.Builtin PySem.Builtin.Str
set_option maxHeartbeats 4000000
namespace Mine
open PyProof.Rows.LCg PyProof.Rows.LCt
section
variable {prog : Program} {w : World} {A : Around} {E : Value → Shared → Prop} {s : Shared} {h₀ : Heap} {L : Addr} {m : Str → Option Value} {env : Env}
/-- a comprehension's source that is a text -/
noncomputable def SrcS (prog : Program) (w : World) (A : Around) (h₀ : Heap) (L : Addr) (m : Str → Option Value) (env : Env) (elt : Expr) (x : Str) (scope : Scope) (cl : List (Str × Addr)) (Fin : Shared → List Value → List (Addr × Obj) → Prop) (xv : Value) (s₁ : Shared) : Prop :=
  ∃ l t news, xv = .str (mkS l) t ∧ A.handled = none ∧ Fr h₀ L s₁.heap m ∧ News h₀ L s₁.heap news ∧ l.length ≤ 10000000 ∧
    ∀ s₂ : Shared, (∃ h, s₂ = { s₁ with heap := h }) → CompRest prog w A h₀ L m env elt x scope cl s₂ (fun _ => True) (SignAt (mkS l)) (Fin s₂) (mkS l).cps.size 0 [] news
theorem ListComp_S {elt iter : Expr} {x : Str} {px : Pos} {scope : Scope} {cl : List (Str × Addr)} {pos : Pos} {Q : Value → Shared → Prop} (F₀ : Fr h₀ L s.heap m)
    (hclos : closureFor scope env = pure cl) (hcell : ∀ y ∈ scope.names, y.2 ≠ .cell) (hkind : scope.kind = .function)
    (hnames : ∀ y ∈ scope.names, y.2 = .local → scope.names.lookup y.1 = some .local) (hx : scope.names.lookup x = some .local)
    (h : wpAny (model prog w) A (eval iter env) (SrcS prog w A h₀ L m env elt x scope cl (fun s₂ => FinE h₀ L m s₂ Q)) E s)
    (hs : ∀ x, foldedSetIterable iter env x = pure x := by intro _; rfl) :
    wpAny (model prog w) A (eval (.ListComp elt [⟨.Name x px, iter, [], 0⟩] scope pos) env) Q E s := by
  rw [eval_ListComp]
  refine wpAny_comprehension_free (use := none) rfl hs hclos hkind hnames (wpAny_mono h (fun xv s₁ h₁ => ?_) fun _ _ e => e)
  obtain ⟨l, t, news, rfl, hh, F, N, hsz, R⟩ := h₁
  have hsz' : (mkS l).cps.size ≤ sizeLine := by show l.toArray.size ≤ _; rw [List.size_toArray]; exact len_line hsz
  have up : ∀ {o' : Obj} b o, s₁.heap.get? b = some o → (s₁.heap.push o').get? b = some o := fun b o e => Heap.get?_push_of_some _ e
  have hb : ∀ {o' : Obj}, ∀ b ∈ [s₁.heap.objs.size], b < (s₁.heap.push o').objs.size := fun b hb => by
    rw [Heap.size_push, List.mem_singleton.mp hb]; exact Nat.lt_succ_self _
  cases ha : (mkS l).cps.all (· < 128)
  · refine wpAny_pyIter_wide ha ?_
    refine block_U (S := fun _ => True) (Walks.strWide hh _ (mkS l) t) hsz' (fun i h st => by obtain ⟨o, e, _⟩ := st; exact ⟨o, e⟩)
      (fun i h h' o nw st e e' _ _ _ => by obtain ⟨o', q, r⟩ := st; rw [e] at q; cases q; exact ⟨o, e', r⟩) hcell hkind hx ⟨_, Heap.get?_push_size _ rfl, rfl, rfl⟩ hb
      (F.keeps up) (N.grown up) (Nat.ne_of_lt F.ns.lt) (next_is_new F) (fun p hp => Nat.ne_of_lt (Heap.lt_size (N p hp).1)) trivial (R _ ⟨_, rfl⟩) ?_
    intro D C h tk m' ys news' F' N' o1 hn hC₀ hD₀ hCL hDL hCD offC fin
    refine ⟨m', hn, fun h'' hs'' => fin D h'' tk (F'.change hs'' hCL hC₀) (fun p hp => ?_) o1⟩
    refine ⟨hs''.extBut _ _ ?_ (N' p hp).1, (N' p hp).2⟩
    rcases List.mem_cons.mp hp with rfl | hp
    · exact Ne.symm hCD
    · exact offC p hp
  · refine wpAny_pyIter_ascii ha ?_
    refine block_U (S := fun _ => True) (Walks.strAscii hh _ (mkS l) t) hsz' (fun i h st => by obtain ⟨o, e, _⟩ := st; exact ⟨o, e⟩)
      (fun i h h' o nw st e e' _ _ _ => by obtain ⟨o', q, r⟩ := st; rw [e] at q; cases q; exact ⟨o, e', r⟩) hcell hkind hx ⟨_, Heap.get?_push_size _ rfl, rfl, rfl⟩ hb
      (F.keeps up) (N.grown up) (Nat.ne_of_lt F.ns.lt) (next_is_new F) (fun p hp => Nat.ne_of_lt (Heap.lt_size (N p hp).1)) trivial (R _ ⟨_, rfl⟩) ?_
    intro D C h tk m' ys news' F' N' o1 hn hC₀ hD₀ hCL hDL hCD offC fin
    refine ⟨m', hn, fun h'' hs'' => fin D h'' tk (F'.change hs'' hCL hC₀) (fun p hp => ?_) o1⟩
    refine ⟨hs''.extBut _ _ ?_ (N' p hp).1, (N' p hp).2⟩
    rcases List.mem_cons.mp hp with rfl | hp
    · exact Ne.symm hCD
    · exact offC p hp
/-- a comprehension's element is this text, and nothing else is made -/
noncomputable def TxEl (news : List (Addr × Obj)) (r : List Nat) (y : Value) (news' : List (Addr × Obj)) : Prop := news' = news ∧ ∃ t : Tok, y = .str (mkS r) t
theorem tv_snoc (ts : List (List Nat × Tok)) (l : List Nat) (t : Tok) : tv ts ++ [.str (mkS l) t] = tv (ts ++ [(l, t)]) := by rw [tv_append]; rfl
theorem rest_txt {α : Type} {elt : Expr} {x : Str} {scope : Scope} {cl : List (Str × Addr)} {S : List (Addr × Obj) → Prop} {P : Nat → Value → Prop} {Fin : List Value → List (Addr × Obj) → Prop} {news : List (Addr × Obj)} {n : Nat} (as : List α) (is : α → Value → Prop) (g : α → List Nat) (hn : as.length = n) (hP : ∀ i v, i < n → P i v → ∃ a, as[i]? = some a ∧ is a v)
    (turn : ∀ a v I oI C oC D m₂ ys h tk (E' : Value → Shared → Prop), a ∈ as → is a v → NsObj oC m₂ → m₂ x = some v → Fr h₀ L h m → News h₀ L h ((I, oI) :: (C, oC) :: (D, lst ys) :: news) → Off3 I C D news → ((@Ne Nat I C) ∧ (@Ne Nat I D) ∧ (@Ne Nat C D)) →
      wpAny (model prog w) A (eval elt (compEnvC scope cl C env)) (CompEnd h₀ L m { s with heap := h, toks := tk } I oI C oC D (lst ys) S (fun y news' => TxEl news (g a) y news')) E' { s with heap := h, toks := tk })
    (fin : ∀ ts : List (List Nat × Tok), ts.map (·.1) = as.map g → Fin (tv ts) news) : CompRest prog w A h₀ L m env elt x scope cl s S P Fin n 0 [] news := by
  have key : ∀ (j i : Nat) (ts : List (List Nat × Tok)), i + j = n → ts.map (·.1) = (as.take i).map g → CompRest prog w A h₀ L m env elt x scope cl s S P Fin j i (tv ts) news := by
    intro j
    induction j with
    | zero =>
      intro i ts hi hy
      rw [List.take_of_length_le (by lia)] at hy
      exact CompRest.zero (fin ts hy)
    | succ j ih =>
      intro i ts hi hy
      refine CompRest.succ ?_
      intro v I oI C oC D m₂ h tk E' hv hC hx F N off ne
      obtain ⟨a, ha, hv'⟩ := hP i v (by lia) hv
      refine wpAny_mono (turn a v I oI C oC D m₂ _ h tk E' (List.mem_of_getElem? ha) hv' hC hx F N off ne) (fun y s₂ hq => ?_) fun _ _ e => e
      obtain ⟨h', tk', nw, e, F', N', off', hS, hn, t', hy'⟩ := hq
      rw [hn] at N' off' hS
      refine ⟨h', tk', news, e, F', N', off', hS, ?_⟩
      rw [hy']
      show CompRest prog w A h₀ L m env elt x scope cl s S P Fin j (i + 1) (tv ts ++ [.str (mkS (g a)) t']) news
      rw [tv_snoc]
      refine ih (i + 1) _ (by lia) ?_
      rw [List.take_add_one, ha]
      simp [hy]
  exact key n 0 [] (by lia) (by simp)
theorem rest_txtT {α : Type} {ct elt : Expr} {x : Str} {scope : Scope} {cl : List (Str × Addr)} {S : List (Addr × Obj) → Prop} {P : Nat → Value → Prop} {Fin : List Value → List (Addr × Obj) → Prop} {news : List (Addr × Obj)} {n : Nat} (as : List α) (is : α → Value → Prop) (g : α → List Nat) (pz : α → Bool) (hn : as.length = n) (hP : ∀ i v, i < n → P i v → ∃ a, as[i]? = some a ∧ is a v)
    (turn : ∀ a v I oI C oC D m₂ ys h tk (E' : Value → Shared → Prop), a ∈ as → is a v → NsObj oC m₂ → m₂ x = some v → Fr h₀ L h m → News h₀ L h ((I, oI) :: (C, oC) :: (D, lst ys) :: news) → Off3 I C D news → ((@Ne Nat I C) ∧ (@Ne Nat I D) ∧ (@Ne Nat C D)) →
      wpAny (model prog w) A (isTrue ct (compEnvC scope cl C env) (eval ct (compEnvC scope cl C env))) (fun ok s' => if ok = true then
        wpAny (model prog w) A (eval elt (compEnvC scope cl C env)) (CompEnd h₀ L m { s with heap := h, toks := tk } I oI C oC D (lst ys) S (fun y news' => pz a = true ∧ TxEl news (g a) y news')) E' s'
        else CompEnd h₀ L m { s with heap := h, toks := tk } I oI C oC D (lst ys) S (fun _ news' => pz a = false ∧ news' = news) Value.none s') E' { s with heap := h, toks := tk })
    (fin : ∀ ts : List (List Nat × Tok), ts.map (·.1) = (as.filter pz).map g → Fin (tv ts) news) : CompRestT prog w A h₀ L m env ct elt x scope cl s S P Fin n 0 [] news := by
  have key : ∀ (j i : Nat) (ts : List (List Nat × Tok)), i + j = n → ts.map (·.1) = ((as.take i).filter pz).map g → CompRestT prog w A h₀ L m env ct elt x scope cl s S P Fin j i (tv ts) news := by
    intro j
    induction j with
    | zero =>
      intro i ts hi hy
      rw [List.take_of_length_le (by lia)] at hy
      exact CompRestT.zero (fin ts hy)
    | succ j ih =>
      intro i ts hi hy
      refine CompRestT.succ ?_
      intro v I oI C oC D m₂ h tk E' hv hC hx F N off ne
      obtain ⟨a, ha, hv'⟩ := hP i v (by lia) hv
      refine wpAny_mono (turn a v I oI C oC D m₂ _ h tk E' (List.mem_of_getElem? ha) hv' hC hx F N off ne) (fun ok s₂ hq => ?_) fun _ _ e => e
      cases ok with
      | true =>
        simp only [if_true] at hq ⊢
        refine wpAny_mono hq (fun y s₃ h₃ => ?_) fun _ _ e => e
        obtain ⟨h', tk', nw, e, F', N', off', hS, hp, hn, t', hy'⟩ := h₃
        rw [hn] at N' off' hS
        refine ⟨h', tk', news, e, F', N', off', hS, ?_⟩
        rw [hy']
        show CompRestT prog w A h₀ L m env ct elt x scope cl s S P Fin j (i + 1) (tv ts ++ [.str (mkS (g a)) t']) news
        rw [tv_snoc]
        refine ih (i + 1) _ (by lia) ?_
        rw [List.take_add_one, ha]
        simp [hy, hp]
      | false =>
        simp only [Bool.false_eq_true, if_false] at hq ⊢
        obtain ⟨h', tk', nw, e, F', N', off', hS, hp, hn⟩ := hq
        rw [hn] at N' off' hS
        refine ⟨h', tk', news, e, F', N', off', hS, ?_⟩
        refine ih (i + 1) _ (by lia) ?_
        rw [List.take_add_one, ha]
        simp [hy, hp]
  exact key n 0 [] (by lia) (by simp)
/-- over a text -/
theorem src_text {elt : Expr} {x : Str} {scope : Scope} {cl : List (Str × Addr)} {Q : Value → Shared → Prop} {l : List Nat} {t : Tok} {news : List (Addr × Obj)} (g : Nat → List Nat) (hh : A.handled = none) (F : Fr h₀ L s.heap m) (N : News h₀ L s.heap news) (hl : l.length ≤ 10000000)
    (turn : ∀ c u I oI C oC D m₂ ys h tk (E' : Value → Shared → Prop), c ∈ l → NsObj oC m₂ → m₂ x = some (.str (mkS [c]) u) → Fr h₀ L h m → News h₀ L h ((I, oI) :: (C, oC) :: (D, lst ys) :: news) → Off3 I C D news → ((@Ne Nat I C) ∧ (@Ne Nat I D) ∧ (@Ne Nat C D)) →
      wpAny (model prog w) A (eval elt (compEnvC scope cl C env)) (CompEnd h₀ L m { s with heap := h, toks := tk } I oI C oC D (lst ys) (fun _ => True) (fun y news' => TxEl news (g c) y news')) E' { s with heap := h, toks := tk })
    (fin : ∀ D h tk (ts : List (List Nat × Tok)), ts.map (·.1) = l.map g → Fr h₀ L h m → News h₀ L h ((D, lst (tv ts)) :: news) → Off1 D news → Q (.ref D) { s with heap := h, toks := tk }) :
    SrcS prog w A h₀ L m env elt x scope cl (fun s₂ => FinE h₀ L m s₂ Q) (.str (mkS l) t) s := by
  refine ⟨l, t, news, rfl, hh, F, N, hl, fun s₂ hs₂ => ?_⟩
  obtain ⟨g', rfl⟩ := hs₂
  refine rest_txt l (fun c v => ∃ u, v = .str (mkS [c]) u) g (by show _ = l.toArray.size; simp) (fun i v _ hv => ?_) (fun c v I oI C oC D m₂ ys h tk E' hc hv hC hx F N off ne => ?_) (fun ts e D h tk F N o1 => fin D h tk ts e F N o1)
  · obtain ⟨c, u, e, rfl⟩ := hv
    exact ⟨c, by simpa [mkS] using e, u, rfl⟩
  · obtain ⟨u, rfl⟩ := hv
    exact turn c u I oI C oC D m₂ ys h tk E' hc hC hx F N off ne
/-- over a list of texts, with a test -/
theorem src_listT {ct elt : Expr} {x : Str} {scope : Scope} {cl : List (Str × Addr)} {Q : Value → Shared → Prop} {ax : Addr} {as : List (List Nat × Tok)} {k : Nat} {news : List (Addr × Obj)} (g : List Nat → List Nat) (pz : List Nat → Bool) (hh : A.handled = none) (F : Fr h₀ L s.heap m) (N : News h₀ L s.heap news) (hm : (ax, lstT as k) ∈ news) (hl : as.length ≤ 10000000)
    (turn : ∀ c u I oI C oC D m₂ ys h tk (E' : Value → Shared → Prop), (c, u) ∈ as → NsObj oC m₂ → m₂ x = some (.str (mkS c) u) → Fr h₀ L h m → News h₀ L h ((I, oI) :: (C, oC) :: (D, lst ys) :: news) → Off3 I C D news → ((@Ne Nat I C) ∧ (@Ne Nat I D) ∧ (@Ne Nat C D)) →
      wpAny (model prog w) A (isTrue ct (compEnvC scope cl C env) (eval ct (compEnvC scope cl C env))) (fun ok s' => if ok = true then
        wpAny (model prog w) A (eval elt (compEnvC scope cl C env)) (CompEnd h₀ L m { s with heap := h, toks := tk } I oI C oC D (lst ys) (SrcAt h₀ ax (tv as).toArray) (fun y news' => pz c = true ∧ TxEl news (g c) y news')) E' s'
        else CompEnd h₀ L m { s with heap := h, toks := tk } I oI C oC D (lst ys) (SrcAt h₀ ax (tv as).toArray) (fun _ news' => pz c = false ∧ news' = news) Value.none s') E' { s with heap := h, toks := tk })
    (fin : ∀ D h tk (ts : List (List Nat × Tok)), ts.map (·.1) = ((as.map (·.1)).filter pz).map g → Fr h₀ L h m → News h₀ L h ((D, lst (tv ts)) :: news) → Off1 D news → Q (.ref D) { s with heap := h, toks := tk }) :
    CompSrcT prog w A h₀ L m env ct elt x scope cl (fun s₂ => FinE h₀ L m s₂ Q) (.ref ax) s := by
  refine CompSrcT.ledger hh F N hm (by rw [List.size_toArray, tv_length]; exact len_line hl) fun g' => ?_
  refine rest_txtT as (fun a v => v = .str (mkS a.1) a.2) (fun a => g a.1) (fun a => pz a.1) (by rw [List.size_toArray, tv_length]) (fun i v _ hv => ?_) (fun a v I oI C oC D m₂ ys h tk E' hc hv hC hx F N off ne => ?_) (fun ts e D h tk F N o1 => fin D h tk ts ?_ F N o1)
  · have hv' : (tv as)[i]? = some v := by simpa using hv
    unfold tv at hv'
    rw [List.getElem?_map] at hv'
    cases e : as[i]? with
    | none => rw [e] at hv'; cases hv'
    | some a => rw [e] at hv'; exact ⟨a, rfl, (Option.some.inj hv').symm⟩
  · subst hv
    exact turn a.1 a.2 I oI C oC D m₂ ys h tk E' hc hC hx F N off ne
  · rw [e, List.filter_map, List.map_map]; rfl
/-- over a list of ints -/
theorem src_ints {elt : Expr} {x : Str} {scope : Scope} {cl : List (Str × Addr)} {Q : Value → Shared → Prop} {ax : Addr} {vs : List Value} {ns : List Int} {k : Nat} {news : List (Addr × Obj)} (g : Int → List Nat) (hh : A.handled = none) (F : Fr h₀ L s.heap m) (N : News h₀ L s.heap news) (hm : (ax, ({ cls := .type "list", data := .seq vs.toArray k } : Obj)) ∈ news) (hi : IntsAre vs ns) (hl : ns.length ≤ 10000000)
    (turn : ∀ c u I oI C oC D m₂ ys h tk (E' : Value → Shared → Prop), c ∈ ns → NsObj oC m₂ → m₂ x = some (.int c u) → Fr h₀ L h m → News h₀ L h ((I, oI) :: (C, oC) :: (D, lst ys) :: news) → Off3 I C D news → ((@Ne Nat I C) ∧ (@Ne Nat I D) ∧ (@Ne Nat C D)) →
      wpAny (model prog w) A (eval elt (compEnvC scope cl C env)) (CompEnd h₀ L m { s with heap := h, toks := tk } I oI C oC D (lst ys) (SrcAt h₀ ax vs.toArray) (fun y news' => TxEl news (g c) y news')) E' { s with heap := h, toks := tk })
    (fin : ∀ D h tk (ts : List (List Nat × Tok)), ts.map (·.1) = ns.map g → Fr h₀ L h m → News h₀ L h ((D, lst (tv ts)) :: news) → Off1 D news → Q (.ref D) { s with heap := h, toks := tk }) :
    CompSrc prog w A h₀ L m env elt x scope cl (fun s₂ => FinE h₀ L m s₂ Q) (.ref ax) s := by
  have hlen : vs.length = ns.length := hi.length
  refine CompSrc.ledger hh F N hm (by rw [List.size_toArray, hlen]; exact len_line hl) fun g' => ?_
  refine rest_txt ns (fun a v => ∃ u, v = .int a u) g (by rw [List.size_toArray]; exact hlen.symm) (fun i v _ hv => ?_) (fun a v I oI C oC D m₂ ys h tk E' hc hv hC hx F N off ne => ?_) (fun ts e D h tk F N o1 => fin D h tk ts e F N o1)
  · obtain ⟨a, t, e, ha⟩ := IntsAre.at hi i v (by simpa using hv)
    exact ⟨a, ha, t, e⟩
  · obtain ⟨u, rfl⟩ := hv
    exact turn a u I oI C oC D m₂ ys h tk E' hc hC hx F N off ne
end
end Mine
end -- IlK1
section -- IlK2
theorem Mine.none_IlK2 : True := by
  k_with_none
  trivial
open PySem PySem.W PyProof.Rows PySem.Calls PySem.Spec PySem.Builtin PySem.Builtin.Str
namespace Mine
theorem e_cons {l : List Nat} {t : Tok} {ks : List (List Nat × Tok)} : (#[Value.str (mkS l) t] : Array Value).toList ++ (tv ks).toArray.toList = tv ((l, t) :: ks) := by simp [tv]
theorem e_snoc {y : Str} {l : List Nat} {t : Tok} {ks : List (List Nat × Tok)} (e : y = mkS l) : (tv ks).toArray.toList ++ (#[Value.str y t] : Array Value).toList = tv (ks ++ [(l, t)]) := by subst e; simp [tv]
theorem e_app {as bs : List (List Nat × Tok)} : (tv as).toArray.toList ++ (tv bs).toArray.toList = tv (as ++ bs) := by simp [tv]
theorem e_rev {as : List (List Nat × Tok)} : (tv as).toArray.toList.reverse = tv as.reverse := by simp [tv]
theorem slice_mid_tv (as : List (List Nat × Tok)) : (slicePick (tv as).toArray (some 1) (some (-1)) none).toList = tv ((as.drop 1).dropLast) := by
  by_cases h : as.length = 0
  · have : as = [] := List.length_eq_zero_iff.mp h
    subst this; rfl
  · have hb : sliceBounds (some 1) (some (-1)) none (tv as).toArray.size = (((1 : Nat) : Int), ((as.length - 1 : Nat) : Int), 1) := by
      rw [List.size_toArray, tv_length]
      unfold sliceBounds
      simp
      lia
    rw [kmk_pick_nat _ hb]
    unfold tv
    rw [List.toList_toArray, List.toList_toArray, List.dropLast_eq_take, List.length_drop, ← List.map_drop, ← List.map_take]
section
variable {prog : Program} {w : World} {A : Around} {E : Value → Shared → Prop} {s : Shared} {h₀ : Heap} {L D a b : Addr} {m : Str → Option Value} {news : List (Addr × Obj)} {l : List Nat} {y : Str} {t u : Tok} {value slice : Expr}
theorem t_addL {its its2 : Array Value} {cs : List (List Nat × Tok)} {Q : Value → Shared → Prop} (F : Fr h₀ L s.heap m) (N : News h₀ L s.heap news) (ha : s.heap.IsList a its) (hb : s.heap.IsList b its2) (e : its.toList ++ its2.toList = tv cs) (hz : cs.length ≤ 10000000)
    (h : ∀ D h', Fr h₀ L h' m → News h₀ L h' ((D, lstT cs 0) :: news) → (∀ p ∈ news, p.1 < D) → Q (.ref D) { s with heap := h' }) : wpAny (model prog w) A (binaryOp .Add (.ref a) (.ref b)) Q E s :=
  kmk_add_lit F N ha hb e h (by have := congrArg List.length e; rw [List.length_append, tv_length] at this; rw [this]; exact len_line hz)
theorem t_mulL {x : Int} {Q : Value → Shared → Prop} {n : Nat} (F : Fr h₀ L s.heap m) (N : News h₀ L s.heap news) (hm : (a, ({ cls := .type "list", data := .seq #[Value.str y t] n } : Obj)) ∈ news) (hy : y = mkS l) (h0 : 0 ≤ x) (hz : x ≤ 1000000)
    (h : ∀ D h', Fr h₀ L h' m → News h₀ L h' ((D, lstT (List.replicate x.toNat (l, t)) 0) :: news) → (∀ p ∈ news, p.1 < D) → Q (.ref D) { s with heap := h' }) : wpAny (model prog w) A (binaryOp .Mult (.ref a) (.int x u)) Q E s := by
  refine PyProof.Rows.mul_list F N (N _ hm).1 (by lia) (by lia) (by simp; lia) fun h' F' N' => h _ h' F' ?_ fun p hp => Heap.lt_size (N p hp).1
  have e : (List.foldl (fun x1 x2 => x1 ++ x2) #[] (List.replicate (if (#[Value.str y t] : Array Value).isEmpty = true then 0 else x.toNat) #[Value.str y t])) = (tv (List.replicate x.toNat (l, t))).toArray := by
    rw [if_neg (by simp)]
    have fold : ∀ (k : Nat) (acc : Array Value), List.foldl (fun x1 x2 => x1 ++ x2) acc (List.replicate k #[Value.str y t]) = acc ++ (List.replicate k (Value.str y t)).toArray := by
      intro k
      induction k with
      | zero => intro acc; simp
      | succ k ih =>
        intro acc
        rw [List.replicate_succ, List.foldl_cons, ih, List.replicate_succ]
        apply Array.toList_inj.mp
        simp
    rw [fold, hy]
    unfold tv
    rw [List.map_replicate]
    simp
  rw [e] at N'
  exact N'
theorem t_notintuple {vs : List Value} {n : Nat} {ys : List Str} {zs : List (List Nat)} {Q : Value → Shared → Prop} (N : News h₀ L s.heap news) (hm : (D, ({ cls := .type "tuple", data := .seq vs.toArray n } : Obj)) ∈ news)
    (hi : StrsAre vs ys) (hz : ys = zs.map mkS) (h : Q (.bool (decide (l ∉ zs))) s) : wpAny (model prog w) A (compareOp .NotIn (.str (mkS l) u) (.ref D)) Q E s := by
  refine notin_tuple_strs (News.isTup N hm) hi ?_
  have : (!(ys.any fun x => x == mkS l)) = decide (l ∉ zs) := by rw [hz, any_mkS]; simp
  first
    | (rw [this]; exact h)
    | exact this ▸ h
end
/-! a for over a list, any state -/
section
variable {prog : Program} {w : World} {A : Around} {E : Value → Shared → Prop} {s : Shared} {env : Env} {h₀ : Heap} {x : Str} {body : List Stmt} {Q : Flow → Shared → Prop}
noncomputable def GTurn (h₀ : Heap) (L : Addr) (lp : Addr × Obj) (I : Addr) (it : Obj) (St : (Str → Option Value) → List (Addr × Obj) → Prop) (s₁ : Shared) (Q : Flow → Shared → Prop) (f : Flow) (s₂ : Shared) : Prop :=
  UnrPost h₀ L s₁ I it (fun m' n' => lp ∈ n' ∧ St m' n') Q f s₂
theorem for_gen {ax : Addr} {lo : Obj} {vs : List Value} {n : Nat} {m₀ : Str → Option Value} {news : List (Addr × Obj)} (St : List Value → (Str → Option Value) → List (Addr × Obj) → Prop)
    (hh : A.handled = none) (F : Fr h₀ env.locals s.heap m₀) (N : News h₀ env.locals s.heap news) (hm : (ax, lo) ∈ news) (hc : lo.cls = .type "list") (hd : lo.data = .seq vs.toArray n)
    (h0 : St vs m₀ news)
    (turn : ∀ v r m₁ n₁ it I h tk, St (v :: r) m₁ n₁ → (ax, lo) ∈ n₁ → (∀ q ∈ news, q.1 < I) → (∀ q ∈ n₁, q.1 ≠ I) → it.cls = .type "list_iterator" → Fr h₀ env.locals h (upd m₁ x (some v)) → News h₀ env.locals h ((I, it) :: n₁) →
      wpAny (model prog w) A (execs body env) (GTurn h₀ env.locals (ax, lo) I it (St r) { s with heap := h, toks := tk } Q) E { s with heap := h, toks := tk })
    (done : ∀ m₁ n₁ h tk, St [] m₁ n₁ → Fr h₀ env.locals h m₁ → News h₀ env.locals h n₁ → Q .next { s with heap := h, toks := tk }) :
    wpAny (model prog w) A (pyIter (.ref ax)) (fun it s₂ => LoopAtV prog w A h₀ env x body Q E it s₂) E s := by
  refine iter_listUnr hh F N hm hc hd fun I hI => ?_
  have key : ∀ (vs : List Value) (m : Str → Option Value) (n₁ : List (Addr × Obj)), (ax, lo) ∈ n₁ → (∀ q ∈ n₁, q.1 ≠ I) → St vs m n₁ → ListRest prog w A E h₀ env x body Q s I (ax, lo) vs m n₁ := by
    intro vs
    induction vs with
    | nil =>
      intro m n₁ _ _ hP
      exact ListRest.zero fun h tk F N => done m n₁ h tk hP F N
    | cons v r ih =>
      intro m n₁ hmem hne hP
      refine ListRest.succ fun it h tk hit F N => ?_
      refine wpAny_mono (turn v r m n₁ it I h tk hP hmem hI hne hit F N) (fun f s₂ hq => ?_) fun _ _ x => x
      have conv : ∀ {s₂}, UnrEnd h₀ env.locals { s with heap := h, toks := tk } I it (fun m' n' => (ax, lo) ∈ n' ∧ St r m' n') s₂ →
          UnrEnd h₀ env.locals { s with heap := h, toks := tk } I it (fun m' n' => (ax, lo) ∈ n' ∧ ListRest prog w A E h₀ env x body Q s I (ax, lo) r m' n') s₂ := by
        rintro s₂ ⟨h', tk', m', n', e, F', N', off, hm', hP'⟩
        exact ⟨h', tk', m', n', e, F', N', off, hm', ih m' n' hm' off hP'⟩
      cases f with
      | ret v => exact hq
      | brk => exact hq
      | next => exact conv hq
      | cont => exact conv hq
  exact key vs m₀ news hm (fun q hq => Nat.ne_of_lt (hI q hq)) h0
theorem gturn_next {L : Addr} {lp : Addr × Obj} {I : Addr} {it : Obj} {St : (Str → Option Value) → List (Addr × Obj) → Prop} {s₁ : Shared} {h' : Heap} {tk' : Nat} {m' : Str → Option Value} {n' : List (Addr × Obj)}
    (F : Fr h₀ L h' m') (N : News h₀ L h' ((I, it) :: n')) (hl : ∀ q ∈ n', q.1 ≠ I) (hm : lp ∈ n') (hP : St m' n') :
    GTurn h₀ L lp I it St s₁ Q .next { s₁ with heap := h', toks := tk' } := ⟨h', tk', _, n', rfl, F, N, hl, hm, hP⟩
end
/-! what _law_straight makes -/
noncomputable def strStep (st : List (List Nat) × Nat) (c : List Nat) : List (List Nat) × Nat :=
  if c = [46, 46] then (st.1, st.2 + 1) else if c ∉ [[], [46]] ∧ st.2 ≠ 0 then (st.1, st.2 - 1) else if c ∉ [[], [46]] then (c :: st.1, st.2) else st
noncomputable def strAll (x : List Nat) : List (List Nat) × Nat := (splitL 47 x).reverse.foldl strStep ([], 0)
noncomputable def straightL (x : List Nat) : List Nat :=
  if x.take 1 ≠ [47] then
    (let r := joinL [47] (List.replicate (strAll x).2 [46, 46] ++ (strAll x).1)
     if r = [] then [46] else r)
  else (if x.take 2 = [47, 47] ∧ (x.take 3).drop 2 ≠ [47] then [47, 47] else [47]) ++ joinL [47] (strAll x).1
/-- the loop over the names, from behind -/
noncomputable def SP (f : List (List Nat) × Nat) (r ks : List (List Nat × Tok)) (u : Nat) : Prop := (r.map (·.1)).foldl strStep (ks.map (·.1), u) = f ∧ total (ks.map (·.1)) + 3 * u + total (r.map (·.1)) ≤ 100001
theorem sp_up {f : List (List Nat) × Nat} {c : List Nat} {t : Tok} {r ks : List (List Nat × Tok)} {u : Nat} (h : SP f ((c, t) :: r) ks u) (hc : c = [46, 46]) : SP f r ks (u + 1) := by
  obtain ⟨h1, h2⟩ := h
  refine ⟨?_, ?_⟩
  · rw [← h1, List.map_cons, List.foldl_cons]
    have : strStep (ks.map (·.1), u) c = (ks.map (·.1), u + 1) := by unfold strStep; rw [if_pos hc]
    rw [this]
  · rw [List.map_cons, total_cons, hc] at h2
    simp only [List.length_cons, List.length_nil] at h2
    lia
theorem sp_down {f : List (List Nat) × Nat} {c : List Nat} {t : Tok} {r ks : List (List Nat × Tok)} {u : Nat} (h : SP f ((c, t) :: r) ks u) (hc : ¬ c = [46, 46]) (hn : c ∉ [[], [46]]) (hu : u ≠ 0) : SP f r ks (u - 1) := by
  obtain ⟨h1, h2⟩ := h
  refine ⟨?_, ?_⟩
  · rw [← h1, List.map_cons, List.foldl_cons]
    have : strStep (ks.map (·.1), u) c = (ks.map (·.1), u - 1) := by unfold strStep; rw [if_neg hc, if_pos ⟨hn, hu⟩]
    rw [this]
  · rw [List.map_cons, total_cons] at h2; lia
theorem sp_keep {f : List (List Nat) × Nat} {c : List Nat} {t t' : Tok} {r ks : List (List Nat × Tok)} {u : Nat} (h : SP f ((c, t) :: r) ks u) (hc : ¬ c = [46, 46]) (hn : c ∉ [[], [46]]) (hu : u = 0) : SP f r ((c, t') :: ks) u := by
  obtain ⟨h1, h2⟩ := h
  refine ⟨?_, ?_⟩
  · rw [← h1]
    have : strStep (ks.map (·.1), u) c = (c :: ks.map (·.1), u) := by unfold strStep; rw [if_neg hc, if_neg (fun q => q.2 hu), if_pos hn]
    show _ = (r.map (·.1)).foldl strStep (strStep (ks.map (·.1), u) c)
    rw [this]; rfl
  · rw [List.map_cons, total_cons] at *
    dsimp only at *
    lia
theorem sp_skip {f : List (List Nat) × Nat} {c : List Nat} {t : Tok} {r ks : List (List Nat × Tok)} {u : Nat} (h : SP f ((c, t) :: r) ks u) (hc : ¬ c = [46, 46]) (hn : ¬ c ∉ [[], [46]]) : SP f r ks u := by
  obtain ⟨h1, h2⟩ := h
  refine ⟨?_, ?_⟩
  · rw [← h1, List.map_cons, List.foldl_cons]
    have : strStep (ks.map (·.1), u) c = (ks.map (·.1), u) := by unfold strStep; rw [if_neg hc, if_neg (fun q => hn q.1), if_neg hn]
    rw [this]
  · rw [List.map_cons, total_cons] at h2; lia
theorem menu_dot : [Str.ofString "", Str.ofString "."] = [[], [46]].map mkS := by rw [w_nil, w_dot]; rfl
end Mine
end -- IlK2
section -- IlK3
theorem Mine.none_IlK3 : True := by
  k_with_none
  trivial
open PySem PySem.W PyProof.Rows PySem.Calls PySem.Spec PySem.Builtin PySem.Builtin.Str
namespace Mine
theorem upd3 {m m' : Str → Option Value} {a b c : Str} (h : ∀ y, y ≠ a → y ≠ b → y ≠ c → m' y = m y) : m' = upd (upd (upd m c (m' c)) b (m' b)) a (m' a) := by
  funext y
  unfold upd
  by_cases h1 : y = a
  · subst h1; rw [if_pos rfl]
  · by_cases h2 : y = b
    · subst h2; rw [if_neg h1, if_pos rfl]
    · by_cases h3 : y = c
      · subst h3; rw [if_neg h1, if_neg h2, if_pos rfl]
      · rw [if_neg h1, if_neg h2, if_neg h3, h y h1 h2 h3]
theorem news_sub {h₀ h : Heap} {L : Addr} {a b : List (Addr × Obj)} (N : News h₀ L h a) (sub : ∀ p ∈ b, p ∈ a) : News h₀ L h b := fun p hp => N p (sub p hp)
noncomputable abbrev nN : Str := Str.ofString "name"
noncomputable abbrev nK : Str := Str.ofString "kept"
noncomputable abbrev nU : Str := Str.ofString "ups"
noncomputable def KSt (m₀ : Str → Option Value) (news : List (Addr × Obj)) (f : List (List Nat) × Nat) (vs : List Value) (m : Str → Option Value) (n : List (Addr × Obj)) : Prop :=
  ∃ ps ks D nD U tu u, vs = tv ps ∧ n = (D, lstT ks nD) :: news ∧ (∀ y, y ≠ nU → y ≠ nK → y ≠ nN → m y = m₀ y) ∧ m nK = some (.ref D) ∧ m nU = some (.int U tu) ∧ U = ((u : Nat) : Int) ∧ SP f ps ks u
section
variable {prog : Program} {w : World} {A : Around} {E : Value → Shared → Prop} {s : Shared} {env : Env} {h₀ : Heap} {body : List Stmt} {Q : Flow → Shared → Prop}
theorem for_kept {ax D0 : Addr} {ps : List (List Nat × Tok)} {n n0 : Nat} {m₀ : Str → Option Value} {news : List (Addr × Obj)} {t0 : Tok} (f : List (List Nat) × Nat)
    (hh : A.handled = none) (F : Fr h₀ env.locals s.heap m₀) (N : News h₀ env.locals s.heap news) (hm : (ax, lstT ps n) ∈ news) (hD : (D0, lstT [] n0) ∈ news) (hk : m₀ nK = some (.ref D0)) (hu : m₀ nU = some (.int 0 t0)) (h0 : SP f ps [] 0)
    (turn : ∀ c t r ks D nD U tu u vn it I h tk, SP f ((c, t) :: r) ks u → U = ((u : Nat) : Int) → (∀ q ∈ news, q.1 < I) → D ≠ I → it.cls = .type "list_iterator" → Fr h₀ env.locals h (upd (upd (upd (upd m₀ nN vn) nK (some (.ref D))) nU (some (.int U tu))) nN (some (.str (mkS c) t))) → News h₀ env.locals h ((I, it) :: (D, lstT ks nD) :: news) →
      wpAny (model prog w) A (execs body env) (GTurn h₀ env.locals (ax, lstT ps n) I it (KSt m₀ news f (tv r)) { s with heap := h, toks := tk } Q) E { s with heap := h, toks := tk })
    (done : ∀ ks D nD U tu u vn h tk, SP f [] ks u → U = ((u : Nat) : Int) → Fr h₀ env.locals h (upd (upd (upd m₀ nN vn) nK (some (.ref D))) nU (some (.int U tu))) → News h₀ env.locals h ((D, lstT ks nD) :: news) → Q .next { s with heap := h, toks := tk }) :
    wpAny (model prog w) A (pyIter (.ref ax)) (fun it s₂ => LoopAtV prog w A h₀ env nN body Q E it s₂) E s := by
  have N' : News h₀ env.locals s.heap ((D0, lstT [] n0) :: news) := news_sub N (List.forall_mem_cons.mpr ⟨hD, fun _ h => h⟩)
  refine for_gen (KSt m₀ news f) hh F N' (.tail _ hm) rfl rfl ⟨ps, [], D0, n0, 0, t0, 0, rfl, rfl, fun _ _ _ _ => rfl, hk, hu, rfl, h0⟩ ?_ ?_
  · rintro v r m₁ n₁ it I h tk ⟨ps', ks, D, nD, U, tu, u, e1, rfl, hm', hk', hu', hU, hP⟩ _ hI hne hit F₁ N₁
    cases ps' with
    | nil => cases e1
    | cons p ps' =>
      obtain ⟨c, t⟩ := p
      cases e1
      have em := upd3 hm'
      rw [hk', hu'] at em
      rw [em] at F₁
      exact turn c t ps' ks D nD U tu u _ it I h tk hP hU (fun q hq => hI q (.tail _ hq)) (hne _ (.head _)) hit F₁ N₁
  · rintro m₁ n₁ h tk ⟨ps', ks, D, nD, U, tu, u, e1, rfl, hm', hk', hu', hU, hP⟩ F₁ N₁
    cases ps' with
    | cons p ps' => cases e1
    | nil =>
      have em := upd3 hm'
      rw [hk', hu'] at em
      rw [em] at F₁
      exact done ks D nD U tu u _ h tk hP hU F₁ N₁
theorem gk_next {L : Addr} {lp : Addr × Obj} {I : Addr} {it : Obj} {m₀ : Str → Option Value} {news all : List (Addr × Obj)} {f : List (List Nat) × Nat} {r : List (List Nat × Tok)} {s₁ : Shared} {h' : Heap} {tk' : Nat} {m' : Str → Option Value} {D' : Addr} {ks' : List (List Nat × Tok)} {nD' : Nat} {U' : Int} {tu' : Tok} {u' : Nat}
    (F : Fr h₀ L h' m') (N : News h₀ L h' all) (hm' : ∀ y, y ≠ nU → y ≠ nK → y ≠ nN → m' y = m₀ y) (hk : m' nK = some (.ref D')) (hu : m' nU = some (.int U' tu')) (hd : (D', lstT ks' nD') ∈ all) (hi : (I, it) ∈ all) (sub : ∀ p ∈ news, p ∈ all) (hD : D' ≠ I) (hI : ∀ q ∈ news, q.1 < I) (hlp : lp ∈ news) (hU : U' = ((u' : Nat) : Int)) (hP : SP f r ks' u') :
    GTurn h₀ L lp I it (KSt m₀ news f (tv r)) s₁ Q .next { s₁ with heap := h', toks := tk' } :=
  gturn_next (n' := (D', lstT ks' nD') :: news) F (news_sub N (List.forall_mem_cons.mpr ⟨hi, List.forall_mem_cons.mpr ⟨hd, sub⟩⟩)) (List.forall_mem_cons.mpr ⟨hD, fun q hq => Nat.ne_of_lt (hI q hq)⟩) (.tail _ hlp) ⟨r, ks', D', nD', U', tu', u', rfl, rfl, hm', hk, hu, hU, hP⟩
end
end Mine
end -- IlK3
local macro_rules | `(tactic| k_all) => `(tactic| first | assumption | exact Mine.allNe_of_lt (by assumption) | exact Mine.allNe_of_and (by assumption))
local macro_rules | `(tactic| k_mem) => `(tactic| assumption)
section -- IlH3
open PySem PySem.W PyProof.Rows PySem.Calls PySem.Spec
namespace Mine
theorem lines_IlH3L_1 : True := by
  k_with_none
  k_with "execs cons" => ((k_here; (try k_gentoks); (with_reducible refine wpAny_execs_cons ?_); (try dsimp only); k_fold))
  k_with "mine sub" => (first | exact fun _ h => h | exact fun _ h => .tail _ h | exact fun _ h => .tail _ (.tail _ h) | exact fun _ h => .tail _ (.tail _ (.tail _ h)) | exact fun _ h => .tail _ (.tail _ (.tail _ (.tail _ h))) | exact fun _ h => .tail _ (.tail _ (.tail _ (.tail _ (.tail _ h)))))
  k_with "mine eq" => (first | rfl | (subst_vars; rfl))
  k_with "mine end" => ((refine' ret_of (by assumption) _ ?q9e1 ?q9e2 ?q9e3 ?q9e4; (case q9e2 => k_asm); (case q9e3 => k_asm); (case q9e4 => walk_at "mine sub"); (case q9e1 => walk_at "mine eq"); (all_goals exact (0 : Nat))))
  k_with "mine endS" => ((refine' ret_of (by assumption) _ (veq ?_) ?q9e2 ?q9e3 ?q9e4; (case q9e2 => k_asm); (case q9e3 => k_asm); (case q9e4 => walk_at "mine sub")))
  k_with "mine lt" => (first | assumption | exact ktn_ltOf (by assumption))
  k_with "mine endT3" => ((refine' ret_ofT (by assumption) ?q9F ?q9N ?q9l ?q9s [(_, _), (_, _), (_, _)] ?q9o ?_; (case q9F => k_asm); (case q9N => k_asm); (case q9l => walk_at "mine lt"); (case q9s => walk_at "mine sub"); (case q9o => ((try simp only [w_nil, w_slash]); rfl))))
  k_with "mine endTT" => ((refine' ret_ofT (by assumption) ?q9F ?q9N ?q9l ?q9s _ ?q9o ?q9e; (case q9F => k_asm); (case q9N => k_asm); (case q9l => walk_at "mine lt"); (case q9s => walk_at "mine sub"); (case q9o => exact rfl); (case q9e => assumption)))
  k_with "mine endT2" => ((refine' ret_ofT (by assumption) ?q9F ?q9N ?q9l ?q9s [(_, _), (_, _)] ?q9o ?_; (case q9F => k_asm); (case q9N => k_asm); (case q9l => walk_at "mine lt"); (case q9s => walk_at "mine sub"); (case q9o => ((try simp only [w_nil, w_slash]); rfl))))
  k_with "mine enterT" => ((unfold CtT; intro dp un gd cn cs a ccd cl outer A₀ base h₀ L m news s Q E B F X N T hk hd hu hret; refine wpAny_call ?_; k_dflt cell_enter))
  k_with "mine enterR" => ((unfold Ct; intro dp un gd cn cs a ccd cl outer A₀ base h₀ L m news s Q E B F X N T hk hd hu hret; refine wpAny_call ?_; k_dflt (refine' kp_rest ?q9k1 ?q9k2 ?q9k3 ?q9k4 ?q9k5 ?q9kA ?q9kF ?q9kK ?q9k6 ?q9k7 ?q9k8 ?q9kV ?q9kP ?q9kG ?q9kB ?_ ?q9c2 ?q9c3 ?q9c4 ?q9c5; (case q9kA => exact rfl); (case q9kF => exact rfl); (case q9kK => assumption); (case q9k1 => k_asm); (case q9k2 => k_asm); (case q9k3 => k_asm); (case q9k4 => k_asm); (case q9k5 => k_asm); (case q9k6 => k_is); (case q9k7 => k_is); (case q9k8 => ktr_room); (case q9kV => kl_lit); (case q9kP => exact rfl); (case q9kG => exact fun _ => rfl); (case q9kB => exact fun _ => locs rfl); (case q9c5 => decide); (case q9c2 => exact rfl); (case q9c3 => exact rfl); (case q9c4 => exact rfl); k_whole); intro D' g' L' h' l1 FG' F' N' B' X' T'; (try k_lt l1); (try dsimp only); (try k_lift B'); (try k_fold)))
  k_with "mine enter" => ((unfold Ct; intro dp un gd cn cs a ccd cl outer A₀ base h₀ L m news s Q E B F X N T hk hd hu hret; refine wpAny_call ?_; k_dflt cell_enter))
  k_with "mine use" => (((case q9k1 => k_asm); (case q9k2 => k_asm); (case q9k3 => k_asm); (case q9k4 => k_asm); (case q9k5 => k_asm); (case q9kK => first | exact rfl | assumption); (case q9kd => ktr_room); (case q9ku => ktr_units); intro t9 h9 tk9 F9 N9; (try dsimp only); (try k_fold); (try k_sweep)))
  k_with "mine useT" => (((case q9k1 => k_asm); (case q9k2 => k_asm); (case q9k3 => k_asm); (case q9k4 => k_asm); (case q9k5 => k_asm); (case q9kK => first | exact rfl | assumption); (case q9kd => ktr_room); (case q9ku => ktr_units); intro D9 ps9 h9 tk9 e9 F9 N9 l9; (try k_lt l9); (try dsimp only); (try k_fold); (try k_sweep)))
  k_with "mine word" => (first | with_reducible exact w_slash | with_reducible exact w_dot | with_reducible exact w_dotdot | with_reducible exact w_nil | with_reducible rfl)
  k_with "mine len" => (first | assumption | lia | (simp only [List.length_take, List.length_drop, List.length_append, List.length_replicate, List.length_cons, List.length_nil]; lia))
  k_with "call builtin:issubclass" => ((k_here; k_dflt (refine' k_issub ?q9k1 ?q9k2 ?_; (case q9k1 => k_asm); (case q9k2 => k_mem); k_whole)))
  k_with "call builtin:str.rfind" => ((k_here; k_dflt (refine' t_rfind ?q9y ?_; (case q9y => walk_at "mine word"); k_whole); intro r' hr' h1' h2'))
  k_with "subscriptTail Name Slice str ref" => ((k_here; (with_reducible show wpAny _ _ (subscriptTail _ (Expr.Slice (some _) none none _) (Value.str (mkS _) _) _) _ _ _); k_dflt (refine' t_slice_from (s := ⟨_, _, _, _, _⟩) ?q9F ?q9N ?q9x ?q9i ?_ ?q9hs ?q9ht; (case q9F => k_asm); (case q9N => k_asm); (case q9x => walk_at "mine len"); (case q9i => walk_at "mine len"); (case q9hs => with_unfolding_all rfl); (case q9ht => intro _; with_unfolding_all rfl); k_whole); intro h' t' k' F' N'; (try k_sweep)))
  k_with "subscriptTail Name Slice str ref" => ((k_here; (with_reducible show wpAny _ _ (subscriptTail _ (Expr.Slice none (some _) none _) (Value.str (mkS _) _) _) _ _ _); k_dflt (refine' t_slice_to (s := ⟨_, _, _, _, _⟩) ?q9F ?q9N ?q9x ?q9i ?_ ?q9hs ?q9ht; (case q9F => k_asm); (case q9N => k_asm); (case q9x => walk_at "mine len"); (case q9i => walk_at "mine len"); (case q9hs => with_unfolding_all rfl); (case q9ht => intro _; with_unfolding_all rfl); k_whole); intro h' t' k' F' N'; (try k_sweep)))
  k_with "subscriptTail Name Slice str ref" => ((k_here; (with_reducible show wpAny _ _ (subscriptTail _ (Expr.Slice (some _) (some _) none _) (Value.str (mkS _) _) _) _ _ _); k_dflt (refine' t_slice_mid (s := ⟨_, _, _, _, _⟩) ?q9F ?q9N ?q9x ?q9i ?q9j ?_ ?q9hs ?q9ht; (case q9F => k_asm); (case q9N => k_asm); (case q9x => walk_at "mine len"); (case q9i => walk_at "mine len"); (case q9j => walk_at "mine len"); (case q9hs => with_unfolding_all rfl); (case q9ht => intro _; with_unfolding_all rfl); k_whole); intro h' t' k' F' N'; (try k_sweep)))
  k_with "truthy str" => ((k_here; (with_reducible show wpAny _ _ (PySem.truthy (Value.str (mkS _) _)) _ _ _); k_dflt (refine' t_truthy ?q9x ?_; (case q9x => walk_at "mine len"); k_whole); intro k'))
  k_with "call builtin:len" => ((k_here; (with_reducible show wpAny _ _ (call (Value.builtin "len") [Value.str (mkS _) _]) _ _ _); k_dflt (refine' t_len ?q9x ?_; (case q9x => walk_at "mine len"); k_whole); intro k'))
  k_with "compareOp NotEq str str" => ((k_here; (with_reducible show wpAny _ _ (compareOp CmpOp.NotEq (Value.str (mkS _) _) _) _ _ _); k_dflt (refine' t_ne ?q9y ?_; (case q9y => walk_at "mine word"); k_whole)))
  k_with "compareOp Eq str str" => ((k_here; (with_reducible show wpAny _ _ (compareOp CmpOp.Eq (Value.str (mkS _) _) _) _ _ _); k_dflt (refine' t_eq ?q9y ?_; (case q9y => walk_at "mine word"); k_whole)))
  k_with "binaryOp Add str str" => ((k_here; k_dflt (refine' t_add ?q9x ?q9y ?q9l ?_; (case q9x => walk_at "mine word"); (case q9y => walk_at "mine word"); (case q9l => walk_at "mine len"); k_whole); intro t' k'))
  k_with "binaryOp Mult str int" => ((k_here; k_dflt (refine' t_mul ?q9y ?q9a ?q9b ?_; (case q9y => walk_at "mine word"); (case q9a => walk_at "mine len"); (case q9b => walk_at "mine len"); k_whole); intro t' k'))
  k_with "call builtin:str.rstrip" => ((k_here; k_dflt (refine' t_rstrip ?q9y ?q9x ?_; (case q9y => walk_at "mine word"); (case q9x => walk_at "mine len"); k_whole); intro t' k'))
  k_with "call builtin:str.lstrip" => ((k_here; k_dflt (refine' t_lstrip ?q9y ?q9x ?_; (case q9y => walk_at "mine word"); (case q9x => walk_at "mine len"); k_whole); intro t' k'))
  k_with "call builtin:str.startswith" => ((k_here; k_dflt (refine' t_starts ?q9y ?_; (case q9y => walk_at "mine word"); k_whole)))
  k_with "call builtin:str.endswith" => ((k_here; k_dflt (refine' t_ends ?q9y ?_; (case q9y => walk_at "mine word"); k_whole)))
  k_with "call builtin:str.split" => ((k_here; k_dflt (refine' t_split ?q9F ?q9N ?q9y ?q9x ?_; (case q9F => k_asm); (case q9N => k_asm); (case q9y => walk_at "mine word"); (case q9x => walk_at "mine len"); k_whole); intro ps' h' k' e' F' N'; (try k_sweep)))
  k_with "call builtin:str.join" => ((k_here; k_dflt (refine' t_join ?q9N ?q9m ?q9y ?q9l ?_; (case q9N => k_asm); (case q9m => k_mem); (case q9y => walk_at "mine word"); (case q9l => walk_at "mine len"); k_whole); intro t' k'))
  k_with "subscriptTail Name Name str int" => ((k_here; (with_reducible show wpAny _ _ (subscriptTail _ _ (Value.str (mkS _) _) _) _ _ _); k_dflt (refine' t_item ?q9x ?q9i ?q9j ?_ ?q9hs ?q9ht; (case q9x => walk_at "mine len"); (case q9i => walk_at "mine len"); (case q9j => walk_at "mine len"); (case q9hs => with_unfolding_all rfl); (case q9ht => intro _; with_unfolding_all rfl); k_whole); intro c' hc'))
  k_with "exec While Compare cons nil" => ((k_here; k_extra "mine while"))
  k_with "IntTurn ret" => (dsimp only [IntTurn])
  k_with "IntTurn next" => ((refine' int_turn_next ?q9F ?q9N ?q9m ?q9P; (case q9F => k_asm); (case q9N => k_asm); (case q9m => k_extra "mine measure"); (case q9P => k_extra "mine state")))
  k_with "exec If" => ((k_here; k_extra "mine if"))
  k_with "exec For Name Name cons nil" => ((k_here; k_extra "mine for"))
  k_with "pyIter ref" => ((k_here; k_extra "mine iter"))
  k_with "LoopStep3 next" => ((k_extra "mine step"))
  k_with "inplaceOp Add str str" => ((k_here; k_dflt (refine' t_iadd ?q9x ?q9y ?q9l ?_; (case q9x => walk_at "mine word"); (case q9y => walk_at "mine word"); (case q9l => walk_at "mine len"); k_whole); intro t' k'))
  k_with "TurnEnd next" => ((refine' acc_next ?q9F ?q9N ?q9m ?q9hlt ?_; (case q9F => k_asm); (case q9N => k_asm); (case q9m => k_mem); (case q9hlt => assumption)))
  k_with "TurnEnd cont" => ((refine' acc_cont ?q9F ?q9N ?q9m ?q9hlt ?_; (case q9F => k_asm); (case q9N => k_asm); (case q9m => k_mem); (case q9hlt => assumption)))
  k_with "truthy ref" => ((k_here; k_dflt (refine' t_truthyL ?q9N ?q9m ?q9z ?_; (case q9N => k_asm); (case q9m => k_mem); (case q9z => walk_at "mine len"); k_whole); intro k'))
  k_with "subscriptTail Name UnaryOp ref int" => ((k_here; k_dflt (refine' t_last ?q9N ?q9m ?q9e ?q9z ?_ ?q9s; (case q9N => k_asm); (case q9m => k_mem); (case q9e => first | assumption | (simp_all; done)); (case q9z => walk_at "mine len"); (case q9s => with_unfolding_all rfl); k_whole); intro q' p' e'))
  k_with "call builtin:list.append" => ((k_here; k_dflt (refine' t_append ?q9F ?q9N ?q9y ?q9U ?q9z ?_; (case q9F => k_asm); (case q9N => k_asm); (case q9y => walk_at "mine word"); (case q9U => k_upd); (case q9z => walk_at "mine len"); k_whole); intro h' F' N'; (try k_sweep)))
  k_with "call builtin:list.pop" => ((k_here; k_dflt (refine' t_pop ?q9F ?q9N ?q9e ?q9U ?q9z ?_; (case q9F => k_asm); (case q9N => k_asm); (case q9e => first | assumption | (simp_all; done)); (case q9U => k_upd); (case q9z => walk_at "mine len"); k_whole); intro h' v' F' N'; (try k_sweep)))
  k_with "truthy str" => ((k_here; (with_reducible show wpAny _ _ (PySem.truthy (Value.str (mkS [_]) _)) _ _ _); k_dflt (refine t_truthy1 ?_); intro k'))
  k_with "formatField str" => ((k_here; k_dflt (refine' t_field ?q9x ?_; (case q9x => walk_at "mine len"); k_whole); intro t' k'))
  k_with "exec If" => ((k_here; refine wpAny_If ?_))
  k_with "mine word" => (first | with_reducible exact w_slash | with_reducible exact w_dot | with_reducible exact w_dotdot | with_reducible exact w_nil | with_reducible exact w_star | with_reducible exact w_quest | with_reducible exact w_open | with_reducible exact w_bang | with_reducible exact w_shut | with_reducible exact w_hyph | with_reducible exact w_bsl | with_reducible exact w_bsl2 | with_reducible exact w_never | with_reducible exact w_hat | with_reducible exact w_bopen | with_reducible exact w_dots | with_reducible exact w_lazy | with_reducible exact w_par | with_reducible exact w_pre | with_reducible exact w_end | with_reducible rfl)
  k_with "getAttr ref true" => ((k_here; k_dflt (refine' w_bound ?q9F ?q9N ?q9m ?_; (case q9F => k_asm); (case q9N => k_asm); (case q9m => k_mem); k_whole); intro b' h' k' F' N' l1; (try k_lt l1)))
  k_with "getAttr ref" => ((k_here; k_dflt (refine' w_bound ?q9F ?q9N ?q9m ?_; (case q9F => k_asm); (case q9N => k_asm); (case q9m => k_mem); k_whole); intro b' h' k' F' N' l1; (try k_lt l1)))
  k_with "exec While BoolOp cons nil" => ((k_here; k_extra "mine while"))
  k_with "StandsA" => (exact standsA (by k_asm) (by k_mem))
  k_with "callWith ref" => ((k_here; k_dflt (refine' callWith_boundA ?q9N ?q9m ?_; (case q9N => k_asm); (case q9m => k_mem); k_whole)))
  k_with "And" => (((with_reducible show StandsA _ _ _ ∧ _); refine ⟨standsA (by k_asm) (by k_mem), ?_⟩; try dsimp only [List.nil_append, List.cons_append]))
  k_with "compareOp NotIn str str" => ((k_here; k_dflt (refine' t_notin' ?q9y ?q9c ?_; (case q9y => walk_at "mine word"); (case q9c => k_extra "mine notin"); k_whole)))
  k_with "call builtin:str.replace" => ((k_here; k_dflt (refine' t_replace ?q9hu ?q9hv ?q9huv ?q9y ?q9z ?q9r ?q9yz ?q9x ?_; (case q9y => walk_at "mine word"); (case q9z => walk_at "mine word"); (case q9hu => exact Nat.succ_ne_zero _); (case q9hv => exact Nat.succ_ne_zero _); (case q9huv => exact Nat.ne_of_lt (Nat.lt_succ_self _)); (case q9r => decide); (case q9yz => decide +kernel); (case q9x => walk_at "mine len"); k_whole); intro t' k'))
  k_with "joinParts" => ((k_here; k_dflt (first
  | (refine' t_jp_cons ?q9o ?_; (case q9o => first | exact w_nil | with_reducible rfl | rfl); k_whole)
  | (refine' t_jp_nil ?q9x ?_; (case q9x => walk_at "mine len"); k_whole; intro t' k'))))
  k_with "Exists" => ((k_dflt (refine' ⟨_, ?q9y, ?q9l, ?_⟩; (case q9y => walk_at "mine word"); (case q9l => walk_at "mine len"); k_whole)))
  k_with "compareOp IsNot str ref" => ((k_here; refine wpAny_isNot_other (by rfl) (by intro x; cases x) ?_))
  k_with "compareOp IsNot ref ref" => ((k_here; refine wpAny_isNot_self (by rfl) ?_))
  k_with "subscriptTail Name Constant str int" => ((k_here; (with_reducible show wpAny _ _ (subscriptTail _ _ (Value.str (mkS _) _) _) _ _ _); k_dflt (refine' t_item ?q9x ?q9i ?q9j ?_ ?q9hs ?q9ht; (case q9x => walk_at "mine len"); (case q9i => walk_at "mine len"); (case q9j => k_extra "mine first"); (case q9hs => with_unfolding_all rfl); (case q9ht => intro _; with_unfolding_all rfl); k_whole); intro c' hc'))
  k_with "execs cons" => ((k_here; k_extra "mine toks"))
  k_with "compareOp Is str ref" => ((k_here; refine wpAny_is_other (by rfl) (by intro x; cases x) ?_))
  k_with "compareOp Is ref ref" => ((k_here; refine wpAny_is_self (by rfl) ?_))
  k_with "compareOp In str str" => ((k_here; k_dflt (refine' t_in ?q9y ?_; (case q9y => walk_at "mine word"); k_whole)))
  k_with "TTurn ret" => (dsimp only [TTurn])
  k_with "TJoin next" => ((k_here; k_dflt (refine' tjoin ?q9F ?q9N ?q9e ?q9hm ?q9hi ?_; (case q9F => k_asm); (case q9e => exact rfl); (case q9N => k_extra "mine ledger"); (case q9hm => (intro y h1 h2; (repeat (first | (with_reducible exact rfl) | refine ite_off (by assumption) ?_)); (try exact rfl))); (case q9hi => exact rfl))))
  k_with "TTurn brk" => (dsimp only [TTurn])
  k_with "TTurn next" => ((k_here; k_dflt (refine' tturn_next ?q9F ?q9N ?q9e ?q9hm ?q9hi ?_ ?_; (case q9F => k_asm); (case q9e => exact rfl); (case q9N => k_extra "mine ledger"); (case q9hm => (intro y h1 h2; (repeat (first | (with_reducible exact rfl) | refine ite_off (by assumption) ?_)); (try exact rfl))); (case q9hi => exact rfl))))
  k_with "mine sub" => (first | exact fun _ h => h | (refine fun p hp => ?_; repeat (first | exact hp | refine List.Mem.tail _ ?_)))
  trivial
theorem split_len {ps : List (List Nat × Tok)} {x : List Nat} (e : ps.map (·.1) = splitL 47 x) (hx : x.length ≤ 100000) : ps.length ≤ 10000000 := by
  have h1 := total_split 47 x
  have h2 := (total_facts (splitL 47 x)).1
  rw [← e, List.length_map] at h2
  rw [← e] at h1
  lia
theorem total_rev (l : List (List Nat)) : total l.reverse = total l := by unfold total; simp
theorem sp_start {x : List Nat} {ps : List (List Nat × Tok)} (e : ps.map (·.1) = splitL 47 x) (hx : x.length ≤ 100000) : SP (strAll x) ps.reverse [] 0 := by
  refine ⟨?_, ?_⟩
  · rw [List.map_reverse, e]; rfl
  · rw [List.map_reverse, e, total_rev, total_split]
    show 0 + 3 * 0 + _ ≤ _
    lia
theorem sp_len {f : List (List Nat) × Nat} {c : List Nat} {t : Tok} {r ks : List (List Nat × Tok)} {u : Nat} (h : SP f ((c, t) :: r) ks u) : c.length ≤ 100001 ∧ ks.length ≤ 100001 ∧ u ≤ 100001 := by
  have h2 := h.2
  rw [List.map_cons, total_cons] at h2
  have h3 := (total_facts (ks.map (·.1))).1
  rw [List.length_map] at h3
  dsimp only at h2
  lia
theorem sj_len {f : List (List Nat) × Nat} {ks : List (List Nat × Tok)} {U : Int} {u : Nat} {t : Tok} (h : SP f [] ks u) (e : U = (u : Nat)) :
    (((List.replicate U.toNat (([46, 46] : List Nat), t) ++ ks).map (·.1)).map List.length).sum + (List.replicate U.toNat (([46, 46] : List Nat), t) ++ ks).length * [47].length ≤ 10000000 := by
  have h2 := h.2
  have h3 := (total_facts ((List.replicate U.toNat (([46, 46] : List Nat), t) ++ ks).map (·.1))).2
  rw [List.length_map] at h3
  rw [h3, List.map_append, total_app]
  have h4 : total ((List.replicate U.toNat (([46, 46] : List Nat), t)).map (·.1)) = 3 * U.toNat := by
    rw [List.map_replicate]
    unfold total
    simp
    lia
  rw [h4]
  lia
theorem sj_len2 {f : List (List Nat) × Nat} {ks : List (List Nat × Tok)} {u : Nat} (h : SP f [] ks u) : ((ks.map (·.1)).map List.length).sum + ks.length * [47].length ≤ 10000000 ∧ (joinL [47] (ks.map (·.1))).length ≤ 100001 ∧ ks.length ≤ 100001 ∧ u ≤ 100001 := by
  have h2 := h.2
  have h3 := (total_facts (ks.map (·.1))).2
  have h5 := (total_facts (ks.map (·.1))).1
  have h4 := join_len [47] (Nat.le_refl _) (ks.map (·.1))
  rw [List.length_map] at h3 h5
  lia
theorem sj_len3 {f : List (List Nat) × Nat} {ks : List (List Nat × Tok)} {U : Int} {u : Nat} {t : Tok} (h : SP f [] ks u) (e : U = (u : Nat)) : (joinL [47] ((List.replicate U.toNat (([46, 46] : List Nat), t) ++ ks).map (·.1))).length ≤ 10000000 := by
  have h1 := sj_len (t := t) h e
  have h3 := (total_facts ((List.replicate U.toNat (([46, 46] : List Nat), t) ++ ks).map (·.1))).2
  have h4 := join_len [47] (Nat.le_refl _) ((List.replicate U.toNat (([46, 46] : List Nat), t) ++ ks).map (·.1))
  rw [List.length_map] at h3
  lia
theorem w_ss : Str.ofString "//" = mkS [47, 47] := by decide +kernel
theorem lines_IlH3_1 : True := by
  k_with "mine word" => (with_reducible exact w_ss)
  trivial
theorem st_eq {x : List Nat} {ks : List (List Nat × Tok)} {U : Int} {u : Nat} {t : Tok} (h : SP (strAll x) [] ks u) (e : U = (u : Nat)) : (List.replicate U.toNat (([46, 46] : List Nat), t) ++ ks).map (·.1) = List.replicate (strAll x).2 [46, 46] ++ (strAll x).1 := by
  rw [← h.1, e]
  simp
theorem st_kept {x : List Nat} {ks : List (List Nat × Tok)} {u : Nat} (h : SP (strAll x) [] ks u) : ks.map (·.1) = (strAll x).1 := by rw [← h.1]; rfl
theorem st_end1 {x : List Nat} {ks : List (List Nat × Tok)} {U : Int} {u : Nat} {t : Tok} (h : SP (strAll x) [] ks u) (e : U = (u : Nat)) (h1 : x.take 1 ≠ [47]) (h2 : joinL [47] ((List.replicate U.toNat (([46, 46] : List Nat), t) ++ ks).map (·.1)) ≠ []) :
    joinL [47] ((List.replicate U.toNat (([46, 46] : List Nat), t) ++ ks).map (·.1)) = straightL x := by
  rw [st_eq h e] at h2 ⊢
  unfold straightL
  rw [if_pos h1]
  dsimp only
  rw [if_neg h2]
theorem st_end2 {x : List Nat} {ks : List (List Nat × Tok)} {U : Int} {u : Nat} {t : Tok} (h : SP (strAll x) [] ks u) (e : U = (u : Nat)) (h1 : x.take 1 ≠ [47]) (h2 : ¬ joinL [47] ((List.replicate U.toNat (([46, 46] : List Nat), t) ++ ks).map (·.1)) ≠ []) : [46] = straightL x := by
  rw [st_eq h e] at h2
  unfold straightL
  rw [if_pos h1]
  dsimp only
  rw [if_pos (Decidable.not_not.mp h2)]
theorem st_end3 {x : List Nat} {ks : List (List Nat × Tok)} {u : Nat} (h : SP (strAll x) [] ks u) (h1 : ¬ x.take 1 ≠ [47]) (h2 : x.take 2 = [47, 47]) (h3 : (x.take 3).drop 2 ≠ [47]) : [47, 47] ++ joinL [47] (ks.map (·.1)) = straightL x := by
  unfold straightL
  rw [if_neg h1, st_kept h, if_pos ⟨h2, h3⟩]
theorem st_end4 {x : List Nat} {ks : List (List Nat × Tok)} {u : Nat} (h : SP (strAll x) [] ks u) (h1 : ¬ x.take 1 ≠ [47]) (h2 : ¬ (x.take 2 = [47, 47] ∧ (x.take 3).drop 2 ≠ [47])) : [47] ++ joinL [47] (ks.map (·.1)) = straightL x := by
  unfold straightL
  rw [if_neg h1, st_kept h, if_neg h2]
theorem size_tv {ps : List (List Nat × Tok)} (h : ps.length ≤ 10000000) : (tv ps).toArray.size ≤ sizeLine := by rw [List.size_toArray, tv_length]; exact len_line h
theorem lines_IlH3_2 : True := by
  k_with "subscriptTail Name Slice ref ref" => ((k_here; (with_reducible show wpAny _ _ (subscriptTail _ (PySem.Expr.Slice none none (some _) _) (Value.ref _) (Value.ref _)) _ _ _); k_dflt (refine' krv_lit ?q9F ?q9N ?q9l ?q9k ?q9e ?_ ?q9s ?q9t ?q9z; (case q9F => k_asm); (case q9N => k_asm); (case q9l => exact News.isList (by k_asm) (by k_mem)); (case q9k => exact IsPart.int _ _); (case q9e => exact e_rev); (case q9s => with_unfolding_all rfl); (case q9t => kmk_pure); (case q9z => exact size_tv (by walk_at "mine len"))); intro D' h' F' N' l1; (try k_lt l1); (try k_sweep)))
  k_with "compareOp NotIn str ref" => ((k_here; k_dflt (refine' t_notintuple ?q9N ?q9m ?q9i ?q9z ?_; (case q9N => k_asm); (case q9m => k_mem); (case q9i => kde_strs); (case q9z => k_extra "mine menu"); k_whole)))
  k_with "binaryOp Add ref ref" => ((k_here; k_dflt (refine' t_addL ?q9F ?q9N ?q9a ?q9b ?q9e ?q9z ?_; (case q9F => k_asm); (case q9N => k_asm); (case q9a => exact News.isList (by k_asm) (by k_mem)); (case q9b => exact News.isList (by k_asm) (by k_mem)); (case q9e => first | exact e_cons | exact e_app | (refine e_snoc ?_; walk_at "mine word")); (case q9z => walk_at "mine len"); k_whole); intro D' h' F' N' l1; (try k_lt l1); (try k_sweep)))
  k_with "binaryOp Mult ref int" => ((k_here; k_dflt (refine' t_mulL ?q9F ?q9N ?q9m ?q9y ?q9a ?q9b ?_; (case q9F => k_asm); (case q9N => k_asm); (case q9m => k_mem); (case q9y => walk_at "mine word"); (case q9a => walk_at "mine len"); (case q9b => walk_at "mine len"); k_whole); intro D' h' F' N' l1; (try k_lt l1); (try k_sweep)))
  k_with "exec For Name Subscript cons nil" => ((k_here; k_extra "mine for"))
  k_with "GTurn next" => ((k_here; k_dflt (refine' gk_next ?q9F ?q9N ?q9a ?q9b ?q9c ?q9d ?q9e ?q9f ?q9g ?q9h ?q9i ?_ ?_; (case q9F => k_asm); (case q9N => k_asm); (case q9a => (intro y h1 h2 h3; (repeat (first | (with_reducible exact rfl) | refine ite_off (by assumption) ?_)); (try exact rfl))); (case q9b => exact rfl); (case q9c => exact rfl); (case q9d => k_mem); (case q9e => k_mem); (case q9f => kcf_all); (case q9g => first | assumption | (refine neN ?_; lia)); (case q9h => assumption); (case q9i => k_mem))))
  k_with "exec If BoolOp" => ((k_here; refine wpAny_If ?_))
  k_with "mine endV" => ((refine' ret_of (by assumption) _ (vstr ?_) ?q9e2 ?q9e3 ?q9e4; (case q9e2 => k_asm); (case q9e3 => k_asm); (case q9e4 => walk_at "mine sub")))
  trivial
set_option maxHeartbeats 8000000 in
theorem c_straight (prog : Program) (w : World) (p : Program) (loose : List Str) (mean : ExcName → Option Value) (mg mb : Str → Option Value) (x : List Nat) (t : Tok) (hx : x.length ≤ 100000) :
    Ct prog w p loose mean mg mb 297 1 24 [.str (mkS x) t] (fun t => .str (mkS (straightL x)) t) := by
  k_with "mine menu" => exact menu_dot
  k_with "mine len" => exact split_len (by assumption) hx
  k_with "mine for" =>
    rename Fr _ _ _ _ => Fw
    k_dflt (refine' For_invVF Fw ?k1 ?k2 ?_; (case k1 => exact rfl); (case k2 => exact rfl); k_whole)
  k_with "mine iter" => refine Stop.go ?_
  walk_at "mine enter"
  k_steps
  refine Stop.of ?_
  rename Fr _ _ _ _ => Fw
  rename News _ _ _ _ => Nw
  rename _ = splitL 47 x => ew
  refine' for_kept (strAll x) ?hh Fw Nw ?hm ?hD ?hk ?hu (sp_start ew hx) ?turn ?done
  case hh => exact rfl
  case hm => exact .head _
  case hk => exact rfl
  case hD => k_mem
  case hu => exact rfl
  case turn =>
    clear Fw Nw
    intro c t r ks D nD U tu u vn it I h tk e3 eU l2 hne hit F' N'
    have hlen := sp_len e3
    have hl1 := hlen.1
    have hl2 := hlen.2.1
    have hl3 := hlen.2.2
    have l3 := l2
    k_lt l3
    k_steps
    all_goals (try (first | exact sp_up e3 (by assumption) | exact sp_down e3 (by assumption) (by assumption) (by lia) | exact sp_keep e3 (by assumption) (by assumption) (by lia) | exact sp_skip e3 (by assumption) (by assumption)))
    all_goals lia
  case done =>
    clear Fw Nw
    intro ks D nD U tu u vn h tk e3 eU F' N'
    have hj := sj_len2 e3
    have hj1 := hj.1
    have hj2 := hj.2.1
    have hj3 := hj.2.2.1
    have hj4 := hj.2.2.2
    k_with "mine len" => exact sj_len e3 eU
    k_with "mine len" => exact sj_len3 e3 eU
    k_with "mine len" => (simp only [List.length_append, List.length_replicate]; lia)
    k_steps
    all_goals walk_at "mine endV"
    all_goals (first | exact congrArg mkS (st_end1 e3 eU (by assumption) (by assumption)) | exact w_dot.trans (congrArg mkS (st_end2 e3 eU (by assumption) (by assumption))) | exact congrArg mkS (st_end3 e3 (by assumption) (by assumption) (by assumption)) | exact congrArg mkS (st_end4 e3 (by assumption) (fun q => absurd q.1 (by assumption))) | exact congrArg mkS (st_end4 e3 (by assumption) (fun q => absurd q.2 (by assumption))) | trace_state)

end Mine
end -- IlH3
section -- IlK4
theorem Mine.none_IlK4 : True := by
  k_with_none
  trivial
open PySem PySem.W PyProof.Rows PySem.Calls PySem.Spec PySem.Builtin PySem.Builtin.Str
namespace Mine
theorem upd7 {m m' : Str → Option Value} {a b c d e f g : Str} (h : ∀ y, y ≠ a → y ≠ b → y ≠ c → y ≠ d → y ≠ e → y ≠ f → y ≠ g → m' y = m y) :
    m' = upd (upd (upd (upd (upd (upd (upd m g (m' g)) f (m' f)) e (m' e)) d (m' d)) c (m' c)) b (m' b)) a (m' a) := by
  funext y
  unfold upd
  by_cases h1 : y = a
  · subst h1; rw [if_pos rfl]
  · rw [if_neg h1]
    by_cases h2 : y = b
    · subst h2; rw [if_pos rfl]
    · rw [if_neg h2]
      by_cases h3 : y = c
      · subst h3; rw [if_pos rfl]
      · rw [if_neg h3]
        by_cases h4 : y = d
        · subst h4; rw [if_pos rfl]
        · rw [if_neg h4]
          by_cases h5 : y = e
          · subst h5; rw [if_pos rfl]
          · rw [if_neg h5]
            by_cases h6 : y = f
            · subst h6; rw [if_pos rfl]
            · rw [if_neg h6]
              by_cases h7 : y = g
              · subst h7; rw [if_pos rfl]
              · rw [if_neg h7, h y h1 h2 h3 h4 h5 h6 h7]
noncomputable abbrev eA : Str := Str.ofString "at"
noncomputable abbrev eR : Str := Str.ofString "runs"
noncomputable abbrev eS : Str := Str.ofString "sign"
noncomputable abbrev eB : Str := Str.ofString "barred"
noncomputable abbrev eH : Str := Str.ofString "shut"
noncomputable abbrev eI : Str := Str.ofString "inner"
noncomputable abbrev eF : Str := Str.ofString "front"
noncomputable def ETurn (h₀ : Heap) (L : Addr) (s : Shared) (m : Str → Option Value) (base : List (Addr × Obj)) (P : Int → List (List Nat × Tok) → Prop) (n : Nat) (k : Int) (Q : Flow → Shared → Prop) (fl : Flow) (s₃ : Shared) : Prop :=
  match fl with
  | .next | .cont => ∃ h' tk m' k' t' D rs nD, s₃ = { s with heap := h', toks := tk } ∧ Fr h₀ L h' m' ∧ (∀ y, y ≠ eA → y ≠ eR → y ≠ eS → y ≠ eB → y ≠ eH → y ≠ eI → y ≠ eF → m' y = m y) ∧ m' eA = some (.int k' t') ∧ m' eR = some (.ref D) ∧ News h₀ L h' ((D, lstT rs nD) :: base) ∧ (∀ q ∈ base, q.1 ≠ D) ∧ (n - k').toNat < (n - k).toNat ∧ P k' rs
  | .brk => Q .next s₃
  | .ret v => Q (.ret v) s₃
section
variable {prog : Program} {w : World} {A : Around} {E : Value → Shared → Prop} {s : Shared} {env : Env} {h₀ : Heap} {L : Addr} {m : Str → Option Value} {base : List (Addr × Obj)}
theorem eturn_next {Q : Flow → Shared → Prop} {P : Int → List (List Nat × Tok) → Prop} {n : Nat} {k k' : Int} {h' : Heap} {tk : Nat} {t' : Tok} {m' : Str → Option Value} {D : Addr} {rs : List (List Nat × Tok)} {nD : Nat} {all : List (Addr × Obj)}
    (F : Fr h₀ L h' m') (N : News h₀ L h' all) (hm : ∀ y, y ≠ eA → y ≠ eR → y ≠ eS → y ≠ eB → y ≠ eH → y ≠ eI → y ≠ eF → m' y = m y) (ha : m' eA = some (.int k' t')) (hr : m' eR = some (.ref D)) (hD : (D, lstT rs nD) ∈ all) (sub : ∀ p ∈ base, p ∈ all) (hne : ∀ q ∈ base, q.1 ≠ D) (hlt : (n - k').toNat < (n - k).toNat) (hP : P k' rs) :
    ETurn h₀ L s m base P n k Q .next { s with heap := h', toks := tk } :=
  ⟨h', tk, m', k', t', D, rs, nD, rfl, F, hm, ha, hr, news_sub N (List.forall_mem_cons.mpr ⟨hD, sub⟩), hne, hlt, hP⟩
theorem while_expr {Q : Flow → Shared → Prop} (P : Int → List (List Nat × Tok) → Prop) (n : Nat) {test : Expr} {body : List Stmt} {pos : Pos} {k₀ : Int} {t₀ : Tok} {D₀ : Addr} {rs₀ : List (List Nat × Tok)} {n₀ : Nat} {all : List (Addr × Obj)}
    (F : Fr h₀ L s.heap m) (N : News h₀ L s.heap all) (ha : m eA = some (.int k₀ t₀)) (hr : m eR = some (.ref D₀)) (hD : (D₀, lstT rs₀ n₀) ∈ all) (sub : ∀ p ∈ base, p ∈ all) (hne : ∀ q ∈ base, q.1 ≠ D₀) (hP : P k₀ rs₀)
    (turn : ∀ k t rs D nD v1 v2 v3 v4 v5 h₁ tk₁, P k rs → (∀ q ∈ base, q.1 ≠ D) → Fr h₀ L h₁ (upd (upd (upd (upd (upd (upd (upd m eF v5) eI v4) eH v3) eB v2) eS v1) eR (some (.ref D))) eA (some (.int k t))) → News h₀ L h₁ ((D, lstT rs nD) :: base) →
      wpAny (model prog w) A (isTrue test env (eval test env)) (fun b s₂ => if b = true then wpAny (model prog w) A (execs body env) (ETurn h₀ L s m base P n k Q) E s₂ else Q .next s₂) E { s with heap := h₁, toks := tk₁ })
    (hE : PassesOwn (model prog w) A env E) :
    wpAny (model prog w) A (exec (.While test body [] pos) env) Q E s := by
  refine While_inv2 (fun d m₁ n₁ => ∃ k t rs D nD, (∀ y, y ≠ eA → y ≠ eR → y ≠ eS → y ≠ eB → y ≠ eH → y ≠ eI → y ≠ eF → m₁ y = m y) ∧ m₁ eA = some (.int k t) ∧ m₁ eR = some (.ref D) ∧ n₁ = (D, lstT rs nD) :: base ∧ (∀ q ∈ base, q.1 ≠ D) ∧ P k rs ∧ d = (n - k).toNat) (n₀ := (n - k₀).toNat) F (news_sub N (List.forall_mem_cons.mpr ⟨hD, sub⟩)) ⟨k₀, t₀, rs₀, D₀, n₀, fun _ _ _ _ _ _ _ _ => rfl, ha, hr, rfl, hne, hP, rfl⟩ ?_ hE
  rintro d m₁ n₁ h₁ tk₁ F₁ N₁ ⟨k, t, rs, D, nD, e1, e2, e3, rfl, e4, e5, rfl⟩
  have em := upd7 (m := m) (m' := m₁) e1
  rw [e2, e3] at em
  rw [em] at F₁
  refine wpAny_mono (turn k t rs D nD _ _ _ _ _ h₁ tk₁ e5 e4 F₁ N₁) (fun b s₂ hb => ?_) fun _ _ x => x
  cases b with
  | false => simpa using hb
  | true =>
    simp only [if_true] at hb ⊢
    refine wpAny_mono hb (fun fl s₃ h₃ => ?_) fun _ _ x => x
    cases fl with
    | next =>
      obtain ⟨h', tk, m', k', t', D', rs', n', e0, a, b, c, d, e, f, g, i⟩ := h₃
      exact ⟨h', tk, m', _, _, e0, a, e, g, k', t', rs', D', n', b, c, d, rfl, f, i, rfl⟩
    | cont =>
      obtain ⟨h', tk, m', k', t', D', rs', n', e0, a, b, c, d, e, f, g, i⟩ := h₃
      exact ⟨h', tk, m', _, _, e0, a, e, g, k', t', rs', D', n', b, c, d, rfl, f, i, rfl⟩
    | brk => exact h₃
    | ret v => exact h₃
end
/-! the law's runs -/
noncomputable def putL (rs : List (List Nat)) (p : Option (List Nat)) : List (List Nat) := match p with
  | none => rs ++ [[]]
  | some t => rs.dropLast ++ [rs.getLast?.getD [] ++ t]
noncomputable def runGo (x : List Nat) : Nat → Nat → List (List Nat) → List (List Nat)
  | 0, _, rs => rs
  | f + 1, i, rs => if i < x.length then runGo x f (stepL x i).2 (putL rs (stepL x i).1) else rs
noncomputable def runsL (x : List Nat) : List (List Nat) := runGo x x.length 0 [[]]
noncomputable def sumL (rs : List (List Nat)) : Nat := rs.flatten.length
noncomputable def EP (x : List Nat) (k : Int) (rs : List (List Nat × Tok)) : Prop := 0 ≤ k ∧ k.toNat ≤ x.length ∧ rs ≠ [] ∧ rs.length ≤ k.toNat + 1 ∧ (flat rs).length ≤ 8 * k.toNat ∧ ∃ f, x.length - k.toNat ≤ f ∧ runGo x f k.toNat (rs.map (·.1)) = runsL x
theorem ep_start (x : List Nat) (t : Tok) : EP x 0 [([], t)] := ⟨Int.le_refl _, Nat.zero_le _, by simp, by simp, by simp [flat], x.length, Nat.le_refl _, rfl⟩
theorem ep_end {x : List Nat} {k : Int} {rs : List (List Nat × Tok)} (h : EP x k rs) (hk : ¬ k < x.length) : rs.map (·.1) = runsL x := by
  obtain ⟨h1, h2, h3, h6, h7, f, h4, h5⟩ := h
  rw [← h5]
  cases f with
  | zero => rfl
  | succ f =>
    show _ = (if k.toNat < x.length then _ else _)
    rw [if_neg (by lia)]
theorem ep_star {x : List Nat} {k : Int} {rs : List (List Nat × Tok)} {t : Tok} (h : EP x k rs) (hk : k < x.length) (e : stepL x k.toNat = (none, k.toNat + 1)) : EP x (k + 1) (rs ++ [([], t)]) := by
  obtain ⟨h1, h2, h3, h6, h7, f, h4, h5⟩ := h
  refine ⟨by lia, by lia, by simp, by simp; lia, by rw [flat_app]; simp [flat] at *; lia, ?_⟩
  cases f with
  | zero => lia
  | succ f =>
    refine ⟨f, by lia, ?_⟩
    rw [← h5]
    show _ = (if k.toNat < x.length then runGo x f (stepL x k.toNat).2 (putL (rs.map (·.1)) (stepL x k.toNat).1) else _)
    rw [if_pos (by lia), e, show (k + 1).toNat = k.toNat + 1 by lia, List.map_append]; rfl
theorem ep_put {x : List Nat} {k k' : Int} {q : List (List Nat × Tok)} {p : List Nat × Tok} {t : Tok} {a : List Nat} {j : Nat} (h : EP x k (q ++ [p])) (hk : k < x.length) (e : stepL x k.toNat = (some a, j)) (hj : k' = (j : Int)) : EP x k' (q ++ [(p.1 ++ a, t)]) := by
  obtain ⟨h1, h2, h3, h6, h7, f, h4, h5⟩ := h
  have hs := step_len x k.toNat (by lia)
  rw [e] at hs
  have hw : wP (some a) = a.length := rfl
  have hs1 : k.toNat < j := hs.1
  have hs2 : j ≤ x.length := hs.2.1
  have hs3 : a.length ≤ 8 * (j - k.toNat) := hs.2.2
  rw [List.length_append] at h6
  rw [flat_app, List.length_append] at h7
  refine ⟨by lia, by lia, by simp, by simp at *; lia, ?_, ?_⟩
  · rw [flat_app, List.length_append]
    have e1 : (flat [(p.1 ++ a, t)]).length = p.1.length + a.length := by simp [flat]
    have e2 : (flat [p]).length = p.1.length := by simp [flat]
    lia
  cases f with
  | zero => lia
  | succ f =>
    refine ⟨f, by lia, ?_⟩
    rw [← h5]
    show _ = (if k.toNat < x.length then runGo x f (stepL x k.toNat).2 (putL ((q ++ [p]).map (·.1)) (stepL x k.toNat).1) else _)
    rw [if_pos (by lia), e, show k'.toNat = j by lia, List.map_append, List.map_append]
    congr 1
    simp [putL]
end Mine
end -- IlK4
section -- IlK5
theorem Mine.none_IlK5 : True := by
  k_with_none
  trivial
open PySem PySem.W PyProof.Rows PySem.Calls PySem.Spec PySem.Builtin PySem.Builtin.Str
namespace Mine
noncomputable def FindR (x : List Nat) (c : Nat) (i : Int) (r : Int) : Prop :=
  (r = -1 ∧ ∀ v, i.toNat ≤ v → x[v]? ≠ some c) ∨ ∃ k : Nat, r = (k : Int) ∧ i.toNat ≤ k ∧ x[k]? = some c ∧ ∀ v, i.toNat ≤ v → v < k → x[v]? ≠ some c
theorem find3_list (x : List Nat) (c : Nat) (i : Int) (hi : 0 ≤ i) : FindR x c i (Txt.find3 (mkS x) ⟨#[c]⟩ i) := by
  have hg : ∀ v, v < x.length → ((mkS x).cps.getD v 0 = c ↔ x[v]? = some c) := fun v hv => by
    show (x.toArray.getD v 0 = c ↔ _)
    rw [List.getElem?_eq_getElem hv]
    simp [Array.getD, hv]
  have hf : fromIndex (mkS x).length i = i.toNat := by
    unfold fromIndex
    rw [if_neg (by lia)]
    lia

  rcases StrLaws.find3_spec (mkS x) c i with ⟨h1, h2⟩ | ⟨k, h1, h2, h3, h4, h5⟩
  · refine .inl ⟨h1, fun v hv e => ?_⟩
    have hlt : v < x.length := by
      rcases Nat.lt_or_ge v x.length with q | q
      · exact q
      · rw [List.getElem?_eq_none q] at e; cases e
    exact h2 v (by rw [hf]; lia) (by rw [mkS_len]; exact hlt) ((hg v hlt).mpr e)
  · rw [mkS_len] at h3
    refine .inr ⟨k, h1, by lia, (hg k h3).mp h4, fun v hv hk e => ?_⟩
    exact h5 v (by rw [hf]; lia) hk ((hg v (by lia)).mpr e)
theorem t_find3 {prog : Program} {w : World} {A : Around} {E : Value → Shared → Prop} {s : Shared} {x : List Nat} {y : Str} {c : Nat} {i : Int} {t u v : Tok} {Q : Value → Shared → Prop} (hy : y = mkS [c]) (hi : 0 ≤ i) (h : ∀ r, FindR x c i r → Q (.int r s.toks) { s with toks := s.toks + 1 }) :
    wpAny (model prog w) A (call (.builtin "str.find") [.str (mkS x) t, .str y u, .int i v]) Q E s := by
  subst hy
  exact PySem.SC.find3 (h _ (find3_list x c i hi))
/-- the sign behind, told by a slice of one -/
theorem one_slice {x : List Nat} {a b : Nat} {c : Nat} (e : b = a + 1) : (x.take b).drop a = [c] ↔ x[a]? = some c := by
  subst e
  rw [List.take_succ]
  by_cases h : a < x.length
  · rw [List.getElem?_eq_getElem h, List.drop_append_of_le_length (by rw [List.length_take]; lia), List.drop_eq_nil_of_le (by rw [List.length_take]; lia)]
    simp
  · rw [List.getElem?_eq_none (by lia)]
    rw [List.drop_eq_nil_of_le (by rw [List.length_append, List.length_take]; simp; lia)]
    simp
/-- what is found for a bracket's end -/
noncomputable def ShutP (x : List Nat) (k S : Int) : Prop := (x[k.toNat]? = some 91 → FindR x 93 (k + (if x[k.toNat + 1]? = some 33 then 3 else 2)) S) ∧ (x[k.toNat]? ≠ some 91 → S = -1)
theorem shut_barred {x : List Nat} {k S : Int} {c : Nat} (hk : 0 ≤ k) (hb : (x.take (k + 2).toNat).drop (k + 1).toNat = [33]) (hc : x[k.toNat]? = some c) (e : [c] = [91]) (h : FindR x 93 (k + 3) S) : ShutP x k S := by
  have := (one_slice (by lia)).mp hb
  rw [show (k + 1).toNat = k.toNat + 1 by lia] at this
  exact ⟨fun _ => by rw [if_pos this]; exact h, fun q => absurd (at_of hc e) q⟩
theorem shut_plain {x : List Nat} {k S : Int} {c : Nat} (hk : 0 ≤ k) (hb : ¬ (x.take (k + 2).toNat).drop (k + 1).toNat = [33]) (hc : x[k.toNat]? = some c) (e : [c] = [91]) (h : FindR x 93 (k + 2) S) : ShutP x k S := by
  have : ¬ x[k.toNat + 1]? = some 33 := fun q => hb ((one_slice (by lia)).mpr (by rw [show (k + 1).toNat = k.toNat + 1 by lia]; exact q))
  exact ⟨fun _ => by rw [if_neg this]; exact h, fun q => absurd (at_of hc e) q⟩
theorem shut_none {x : List Nat} {k : Int} {c : Nat} (hc : x[k.toNat]? = some c) (e : ¬ [c] = [91]) : ShutP x k (-1) :=
  ⟨fun q => absurd (by rw [hc] at q; rw [Option.some.inj q]) e, fun _ => rfl⟩
theorem shut_miss {x : List Nat} {k S : Int} (h : ShutP x k S) (hk : 0 ≤ k) (hc : x[k.toNat]? = some 91) (hS : S < 0) : x.length ≤ closeL x (k.toNat + 1) := by
  rcases h.1 hc with ⟨_, h2⟩ | ⟨j, h1, _⟩
  · unfold closeL
    dsimp only
    refine find_miss fun q hq => h2 q ?_
    split at hq <;> split <;> first | lia | contradiction
  · lia
theorem shut_hit {x : List Nat} {k S : Int} (h : ShutP x k S) (hk : 0 ≤ k) (hS : ¬ S < 0) : x[k.toNat]? = some 91 ∧ closeL x (k.toNat + 1) = S.toNat ∧ S.toNat < x.length ∧ k.toNat + 2 ≤ S.toNat ∧ (x[k.toNat + 1]? = some 33 → k.toNat + 3 ≤ S.toNat) := by
  by_cases hc : x[k.toNat]? = some 91
  · rcases h.1 hc with ⟨h1, _⟩ | ⟨j, h1, h2, h3, h4⟩
    · lia
    · subst h1
      have hj : j < x.length := by
        rcases Nat.lt_or_ge j x.length with q | q
        · exact q
        · rw [List.getElem?_eq_none q] at h3; cases h3
      refine ⟨hc, ?_, by simpa using hj, by split at h2 <;> lia, fun q => by rw [if_pos q] at h2; lia⟩
      rw [Int.toNat_natCast]
      unfold closeL
      dsimp only
      by_cases hb : x[k.toNat + 1]? = some 33
      · rw [if_pos hb] at h2 h4 ⊢
        exact find_hit (by lia) h3 fun q h5 h6 => h4 q (by lia) h6
      · rw [if_neg hb] at h2 h4 ⊢
        exact find_hit (by lia) h3 fun q h5 h6 => h4 q (by lia) h6
  · have := h.2 hc; lia
end Mine
end -- IlK5
section -- IlK6
theorem Mine.none_IlK6 : True := by
  k_with_none
  trivial
open PySem PySem.W PyProof.Rows PySem.Calls PySem.Spec PySem.Builtin PySem.Builtin.Str
namespace Mine
theorem setL_last (l : List Value) (x v : Value) : ki_setL (l ++ [x]) l.length v = some (l ++ [v]) := by
  induction l with
  | nil => rfl
  | cons a l ih =>
    show ki_setL (a :: (l ++ [x])) (l.length + 1) v = _
    unfold ki_setL
    rw [ih]; rfl
section
variable {prog : Program} {w : World} {A : Around} {E : Value → Shared → Prop} {s : Shared} {h₀ : Heap} {L D : Addr} {m : Str → Option Value} {news news' : List (Addr × Obj)} {y : Str} {t u : Tok} {n : Nat} {value slice : Expr}
theorem t_setLast {q : List (List Nat × Tok)} {p : List Nat × Tok} {l : List Nat} {Q : Unit → Shared → Prop} (F : Fr h₀ L s.heap m) (N : News h₀ L s.heap news) (hy : y = mkS l) (U : Upd D (lstT (q ++ [p]) n) (lstT (q ++ [(l, t)]) n) news news')
    (h : ∀ h', Fr h₀ L h' m → News h₀ L h' news' → Q () { s with heap := h' }) : wpAny (model prog w) A (setItem (.ref D) (.int (-1) u) (.str y t)) Q E s := by
  refine ki_setNeg (its := (tv (q ++ [p])).toArray) (q := tv (q ++ [(l, t)])) (n := n) (j := q.length) F N (by decide) (by decide) ?_ ?_ U h
  · rw [List.size_toArray, tv_length, List.length_append]
    unfold seqIndex?
    simp
    lia
  · rw [List.toList_toArray, tv_append, tv_append, hy]
    have := setL_last (tv q) (.str (mkS p.1) p.2) (.str (mkS l) t)
    rw [tv_length] at this
    exact this
theorem t_getLast {rs : List (List Nat × Tok)} {Q : Value → Shared → Prop} (N : News h₀ L s.heap news) (hm : (D, lstT rs n) ∈ news) (hne : rs ≠ []) (hz : rs.length ≤ 10000000)
    (h : ∀ q p, rs = q ++ [p] → Q (.str (mkS p.1) p.2) s) : wpAny (model prog w) A (getItem (.ref D) (.int (-1) t)) Q E s := by
  have hl := N.isList hm
  rcases List.eq_nil_or_concat rs with rfl | ⟨q, p, rfl⟩
  · exact absurd rfl hne
  · rw [List.concat_eq_append] at *
    have hsz : (tv (q ++ [p])).toArray.size = q.length + 1 := by rw [List.size_toArray, tv_length]; simp
    refine wpAny_getItem_list_neg (x := .str (mkS p.1) p.2) hl (by decide) (by rw [hsz]; lia) (by decide) ?_ (h q p rfl)
    rw [hsz, show ((-1 : Int) + ((q.length + 1 : Nat) : Int)).toNat = q.length by lia]
    rw [tv_append]
    simp [tv]
theorem t_firstL {rs : List (List Nat × Tok)} {Q : Value → Shared → Prop} (N : News h₀ L s.heap news) (hm : (D, lstT rs n) ∈ news) (hne : rs ≠ [])
    (h : ∀ p, rs[0]? = some p → Q (.str (mkS p.1) p.2) s) (hs : subscripted slice false (.ref D) (.int 0 t) = operate [.ref D, .int 0 t] (getItem (.ref D) (.int 0 t))) :
    wpAny (model prog w) A (subscriptTail value slice (.ref D) (.int 0 t)) Q E s := by
  have hl := N.isList hm
  refine tail_any (T := "list") (id := "list.__getitem__") hl.typeIs slot_list_getitem.1 ?_ hs
  cases rs with
  | nil => exact absurd rfl hne
  | cons p r =>
    refine wpAny_getItem_list (x := .str (mkS p.1) p.2) hl (Int.le_refl _) (by lia) ?_ (h p rfl)
    simp [tv]
theorem t_lenL {rs : List (List Nat × Tok)} {Q : Value → Shared → Prop} (N : News h₀ L s.heap news) (hm : (D, lstT rs n) ∈ news) (hz : rs.length ≤ 10000000) (h : ∀ k, Q (.int (rs.length : Nat) k) { s with toks := k + 1 }) :
    wpAny (model prog w) A (call (.builtin "len") [.ref D]) Q E s := by
  have e : (tv rs).toArray.size = rs.length := by rw [List.size_toArray, tv_length]
  refine PyProof.Rows.len_list (N.isList hm) (by show (((tv rs).toArray.size : Nat) : Int) < _; rw [e]; lia) ?_
  have := h (s.toks + 1)
  rw [← e] at this
  exact this
end
theorem t_inW {prog : Program} {w : World} {A : Around} {E : Value → Shared → Prop} {s : Shared} {y : Str} {l : List Nat} {c : Nat} {t u : Tok} {Q : Value → Shared → Prop} (hx : y = mkS l) (h : Q (.bool (decide (c ∈ l))) s) : wpAny (model prog w) A (compareOp .In (.str (mkS [c]) u) (.str y t)) Q E s := by
  subst hx
  exact t_in rfl h
noncomputable def escSet : List Nat := [40, 41, 91, 93, 123, 125, 63, 42, 43, 45, 124, 94, 36, 92, 46, 38, 126, 35, 32, 9, 10, 13, 11, 12]
theorem w_escset : Str.ofString "()[]{}?*+-|^$\\.&~# \t\n\r\x0b\x0c" = mkS escSet := by decide +kernel
theorem w_hatopen : Str.ofString "^[" = mkS [94, 91] := by decide +kernel
theorem w_barset : Str.ofString "\\&~|" = mkS [92, 38, 126, 124] := by decide +kernel
theorem drop_rs (as : List (List Nat × Tok)) : ((as.drop 1).dropLast).length ≤ as.length := by simp; lia
end Mine
end -- IlK6
section -- IlK7
theorem Mine.none_IlK7 : True := by
  k_with_none
  trivial
open PySem PySem.W PyProof.Rows PySem.Calls PySem.Spec PySem.Builtin PySem.Builtin.Str
namespace Mine
open PyProof.Rows.LCg PyProof.Rows.LCt
theorem flat_of {ts : List (List Nat × Tok)} {α : Type} {as : List α} {g : α → List Nat} (e : ts.map (·.1) = as.map g) : flat ts = as.flatMap g := by
  unfold flat
  rw [e, List.flatMap_def]
section
variable {prog : Program} {w : World} {A : Around} {E : Value → Shared → Prop} {s : Shared} {h₀ : Heap} {L : Addr} {m : Str → Option Value} {env : Env}
theorem src_textF {elt : Expr} {x : Str} {scope : Scope} {cl : List (Str × Addr)} {Q : Value → Shared → Prop} {l : List Nat} {t : Tok} {news : List (Addr × Obj)} (g : Nat → List Nat) (B : Nat) (hh : A.handled = none) (F : Fr h₀ L s.heap m) (N : News h₀ L s.heap news) (hl : l.length ≤ 10000000) (hB : (l.flatMap g).length ≤ B)
    (turn : ∀ c u I oI C oC D m₂ ys h tk (E' : Value → Shared → Prop), c ∈ l → NsObj oC m₂ → m₂ x = some (.str (mkS [c]) u) → Fr h₀ L h m → News h₀ L h ((I, oI) :: (C, oC) :: (D, lst ys) :: news) → Off3 I C D news → ((@Ne Nat I C) ∧ (@Ne Nat I D) ∧ (@Ne Nat C D)) →
      wpAny (model prog w) A (eval elt (compEnvC scope cl C env)) (CompEnd h₀ L m { s with heap := h, toks := tk } I oI C oC D (lst ys) (fun _ => True) (fun y news' => TxEl news (g c) y news')) E' { s with heap := h, toks := tk })
    (fin : ∀ D h tk (ts : List (List Nat × Tok)), flat ts = l.flatMap g → (l.flatMap g).length ≤ B → Fr h₀ L h m → News h₀ L h ((D, lst (tv ts)) :: news) → Off1 D news → Q (.ref D) { s with heap := h, toks := tk }) :
    SrcS prog w A h₀ L m env elt x scope cl (fun s₂ => FinE h₀ L m s₂ Q) (.str (mkS l) t) s :=
  src_text g hh F N hl turn fun D h tk ts e F' N' o => fin D h tk ts (flat_of e) hB F' N' o
theorem src_listTF {ct elt : Expr} {x : Str} {scope : Scope} {cl : List (Str × Addr)} {Q : Value → Shared → Prop} {ax : Addr} {as : List (List Nat × Tok)} {k : Nat} {news : List (Addr × Obj)} (g : List Nat → List Nat) (pz : List Nat → Bool) (B : Nat) (hh : A.handled = none) (F : Fr h₀ L s.heap m) (N : News h₀ L s.heap news) (hm : (ax, lstT as k) ∈ news) (hl : as.length ≤ 10000000) (hB : (((as.map (·.1)).filter pz).flatMap g).length ≤ B)
    (turn : ∀ c u I oI C oC D m₂ ys h tk (E' : Value → Shared → Prop), (c, u) ∈ as → NsObj oC m₂ → m₂ x = some (.str (mkS c) u) → Fr h₀ L h m → News h₀ L h ((I, oI) :: (C, oC) :: (D, lst ys) :: news) → Off3 I C D news → ((@Ne Nat I C) ∧ (@Ne Nat I D) ∧ (@Ne Nat C D)) →
      wpAny (model prog w) A (isTrue ct (compEnvC scope cl C env) (eval ct (compEnvC scope cl C env))) (fun ok s' => if ok = true then
        wpAny (model prog w) A (eval elt (compEnvC scope cl C env)) (CompEnd h₀ L m { s with heap := h, toks := tk } I oI C oC D (lst ys) (SrcAt h₀ ax (tv as).toArray) (fun y news' => pz c = true ∧ TxEl news (g c) y news')) E' s'
        else CompEnd h₀ L m { s with heap := h, toks := tk } I oI C oC D (lst ys) (SrcAt h₀ ax (tv as).toArray) (fun _ news' => pz c = false ∧ news' = news) Value.none s') E' { s with heap := h, toks := tk })
    (fin : ∀ D h tk (ts : List (List Nat × Tok)), flat ts = ((as.map (·.1)).filter pz).flatMap g → (((as.map (·.1)).filter pz).flatMap g).length ≤ B → Fr h₀ L h m → News h₀ L h ((D, lst (tv ts)) :: news) → Off1 D news → Q (.ref D) { s with heap := h, toks := tk }) :
    CompSrcT prog w A h₀ L m env ct elt x scope cl (fun s₂ => FinE h₀ L m s₂ Q) (.ref ax) s :=
  src_listT g pz hh F N hm hl turn fun D h tk ts e F' N' o => fin D h tk ts (flat_of e) hB F' N' o
theorem t_joinE {D : Addr} {n : Nat} {ts : List (List Nat × Tok)} {y : Str} {u : Tok} {r : List Nat} {news : List (Addr × Obj)} {Q : Value → Shared → Prop} (N : News h₀ L s.heap news) (hm : (D, lstT ts n) ∈ news) (hy : y = mkS []) (e : flat ts = r)
    (hl : r.length ≤ 10000000) (h : ∀ t' k, Q (.str (mkS r) t') { s with toks := k }) :
    wpAny (model prog w) A (call (.builtin "str.join") [.str y u, .ref D]) Q E s := t_join0 N hm hy (by rw [e]; exact hl) fun t' k => by rw [e]; exact h t' k
end
/-- a run in its bracket -/
noncomputable def runB (r : List Nat) : List Nat := [40, 63, 62, 46, 42, 63] ++ r ++ [41]
noncomputable def ne0 (r : List Nat) : Bool := decide (r ≠ [])
theorem runB_len (rs : List (List Nat)) : ((rs.filter ne0).flatMap runB).length ≤ rs.flatten.length + 7 * rs.length := by
  induction rs with
  | nil => exact Nat.le_refl _
  | cons r rs ih =>
    rw [List.flatten_cons, List.length_append, List.length_cons]
    by_cases h : ne0 r = true
    · rw [List.filter_cons_of_pos h, List.flatMap_cons, List.length_append]
      have : (runB r).length = r.length + 7 := by unfold runB; simp
      lia
    · rw [List.filter_cons_of_neg h]; lia
theorem flat_drop (rs : List (List Nat × Tok)) : (((rs.drop 1).dropLast).map (·.1)).flatten.length ≤ (flat rs).length ∧ ((rs.drop 1).dropLast).length ≤ rs.length := by
  refine ⟨?_, drop_rs rs⟩
  cases rs with
  | nil => exact Nat.le_refl _
  | cons p r =>
    have h1 : (r.dropLast.map (·.1)).flatten.length ≤ (r.map (·.1)).flatten.length := by
      rcases List.eq_nil_or_concat r with rfl | ⟨q, z, rfl⟩
      · exact Nat.le_refl _
      · rw [List.concat_eq_append, List.dropLast_concat]; simp
    show (r.dropLast.map (·.1)).flatten.length ≤ _
    unfold flat
    rw [List.map_cons, List.flatten_cons, List.length_append]
    lia
theorem mid_len {rs : List (List Nat × Tok)} (h1 : rs.length ≤ 100001) (h2 : (flat rs).length ≤ 800000) : ((((rs.drop 1).dropLast).map (·.1)).filter ne0 |>.flatMap runB).length ≤ 2000000 := by
  have h3 := runB_len (((rs.drop 1).dropLast).map (·.1))
  have h4 := flat_drop rs
  rw [List.length_map] at h3
  lia
/-- the law's text of the runs -/
noncomputable def exprT (rs : List (List Nat)) : List Nat :=
  [40, 63, 115, 58] ++ rs[0]?.getD [] ++ (((rs.drop 1).dropLast).filter ne0).flatMap runB ++ (if rs.length > 1 then [46, 42] ++ rs.getLast?.getD [] else []) ++ [41, 92, 90]
end Mine
end -- IlK7
section -- IlH4
open PySem PySem.W PyProof.Rows PySem.Calls PySem.Spec
namespace Mine
theorem lines_IlH4L_1 : True := by
  k_with_none
  k_with "execs cons" => ((k_here; (try k_gentoks); (with_reducible refine wpAny_execs_cons ?_); (try dsimp only); k_fold))
  k_with "mine sub" => (first | exact fun _ h => h | exact fun _ h => .tail _ h | exact fun _ h => .tail _ (.tail _ h) | exact fun _ h => .tail _ (.tail _ (.tail _ h)) | exact fun _ h => .tail _ (.tail _ (.tail _ (.tail _ h))) | exact fun _ h => .tail _ (.tail _ (.tail _ (.tail _ (.tail _ h)))))
  k_with "mine eq" => (first | rfl | (subst_vars; rfl))
  k_with "mine end" => ((refine' ret_of (by assumption) _ ?q9e1 ?q9e2 ?q9e3 ?q9e4; (case q9e2 => k_asm); (case q9e3 => k_asm); (case q9e4 => walk_at "mine sub"); (case q9e1 => walk_at "mine eq"); (all_goals exact (0 : Nat))))
  k_with "mine endS" => ((refine' ret_of (by assumption) _ (veq ?_) ?q9e2 ?q9e3 ?q9e4; (case q9e2 => k_asm); (case q9e3 => k_asm); (case q9e4 => walk_at "mine sub")))
  k_with "mine lt" => (first | assumption | exact ktn_ltOf (by assumption))
  k_with "mine endT3" => ((refine' ret_ofT (by assumption) ?q9F ?q9N ?q9l ?q9s [(_, _), (_, _), (_, _)] ?q9o ?_; (case q9F => k_asm); (case q9N => k_asm); (case q9l => walk_at "mine lt"); (case q9s => walk_at "mine sub"); (case q9o => ((try simp only [w_nil, w_slash]); rfl))))
  k_with "mine endTT" => ((refine' ret_ofT (by assumption) ?q9F ?q9N ?q9l ?q9s _ ?q9o ?q9e; (case q9F => k_asm); (case q9N => k_asm); (case q9l => walk_at "mine lt"); (case q9s => walk_at "mine sub"); (case q9o => exact rfl); (case q9e => assumption)))
  k_with "mine endT2" => ((refine' ret_ofT (by assumption) ?q9F ?q9N ?q9l ?q9s [(_, _), (_, _)] ?q9o ?_; (case q9F => k_asm); (case q9N => k_asm); (case q9l => walk_at "mine lt"); (case q9s => walk_at "mine sub"); (case q9o => ((try simp only [w_nil, w_slash]); rfl))))
  k_with "mine enterT" => ((unfold CtT; intro dp un gd cn cs a ccd cl outer A₀ base h₀ L m news s Q E B F X N T hk hd hu hret; refine wpAny_call ?_; k_dflt cell_enter))
  k_with "mine enterR" => ((unfold Ct; intro dp un gd cn cs a ccd cl outer A₀ base h₀ L m news s Q E B F X N T hk hd hu hret; refine wpAny_call ?_; k_dflt (refine' kp_rest ?q9k1 ?q9k2 ?q9k3 ?q9k4 ?q9k5 ?q9kA ?q9kF ?q9kK ?q9k6 ?q9k7 ?q9k8 ?q9kV ?q9kP ?q9kG ?q9kB ?_ ?q9c2 ?q9c3 ?q9c4 ?q9c5; (case q9kA => exact rfl); (case q9kF => exact rfl); (case q9kK => assumption); (case q9k1 => k_asm); (case q9k2 => k_asm); (case q9k3 => k_asm); (case q9k4 => k_asm); (case q9k5 => k_asm); (case q9k6 => k_is); (case q9k7 => k_is); (case q9k8 => ktr_room); (case q9kV => kl_lit); (case q9kP => exact rfl); (case q9kG => exact fun _ => rfl); (case q9kB => exact fun _ => locs rfl); (case q9c5 => decide); (case q9c2 => exact rfl); (case q9c3 => exact rfl); (case q9c4 => exact rfl); k_whole); intro D' g' L' h' l1 FG' F' N' B' X' T'; (try k_lt l1); (try dsimp only); (try k_lift B'); (try k_fold)))
  k_with "mine enter" => ((unfold Ct; intro dp un gd cn cs a ccd cl outer A₀ base h₀ L m news s Q E B F X N T hk hd hu hret; refine wpAny_call ?_; k_dflt cell_enter))
  k_with "mine use" => (((case q9k1 => k_asm); (case q9k2 => k_asm); (case q9k3 => k_asm); (case q9k4 => k_asm); (case q9k5 => k_asm); (case q9kK => first | exact rfl | assumption); (case q9kd => ktr_room); (case q9ku => ktr_units); intro t9 h9 tk9 F9 N9; (try dsimp only); (try k_fold); (try k_sweep)))
  k_with "mine useT" => (((case q9k1 => k_asm); (case q9k2 => k_asm); (case q9k3 => k_asm); (case q9k4 => k_asm); (case q9k5 => k_asm); (case q9kK => first | exact rfl | assumption); (case q9kd => ktr_room); (case q9ku => ktr_units); intro D9 ps9 h9 tk9 e9 F9 N9 l9; (try k_lt l9); (try dsimp only); (try k_fold); (try k_sweep)))
  k_with "mine word" => (first | with_reducible exact w_slash | with_reducible exact w_dot | with_reducible exact w_dotdot | with_reducible exact w_nil | with_reducible rfl)
  k_with "mine len" => (first | assumption | lia | (simp only [List.length_take, List.length_drop, List.length_append, List.length_replicate, List.length_cons, List.length_nil]; lia))
  k_with "call builtin:issubclass" => ((k_here; k_dflt (refine' k_issub ?q9k1 ?q9k2 ?_; (case q9k1 => k_asm); (case q9k2 => k_mem); k_whole)))
  k_with "call builtin:str.rfind" => ((k_here; k_dflt (refine' t_rfind ?q9y ?_; (case q9y => walk_at "mine word"); k_whole); intro r' hr' h1' h2'))
  k_with "subscriptTail Name Slice str ref" => ((k_here; (with_reducible show wpAny _ _ (subscriptTail _ (Expr.Slice (some _) none none _) (Value.str (mkS _) _) _) _ _ _); k_dflt (refine' t_slice_from (s := ⟨_, _, _, _, _⟩) ?q9F ?q9N ?q9x ?q9i ?_ ?q9hs ?q9ht; (case q9F => k_asm); (case q9N => k_asm); (case q9x => walk_at "mine len"); (case q9i => walk_at "mine len"); (case q9hs => with_unfolding_all rfl); (case q9ht => intro _; with_unfolding_all rfl); k_whole); intro h' t' k' F' N'; (try k_sweep)))
  k_with "subscriptTail Name Slice str ref" => ((k_here; (with_reducible show wpAny _ _ (subscriptTail _ (Expr.Slice none (some _) none _) (Value.str (mkS _) _) _) _ _ _); k_dflt (refine' t_slice_to (s := ⟨_, _, _, _, _⟩) ?q9F ?q9N ?q9x ?q9i ?_ ?q9hs ?q9ht; (case q9F => k_asm); (case q9N => k_asm); (case q9x => walk_at "mine len"); (case q9i => walk_at "mine len"); (case q9hs => with_unfolding_all rfl); (case q9ht => intro _; with_unfolding_all rfl); k_whole); intro h' t' k' F' N'; (try k_sweep)))
  k_with "subscriptTail Name Slice str ref" => ((k_here; (with_reducible show wpAny _ _ (subscriptTail _ (Expr.Slice (some _) (some _) none _) (Value.str (mkS _) _) _) _ _ _); k_dflt (refine' t_slice_mid (s := ⟨_, _, _, _, _⟩) ?q9F ?q9N ?q9x ?q9i ?q9j ?_ ?q9hs ?q9ht; (case q9F => k_asm); (case q9N => k_asm); (case q9x => walk_at "mine len"); (case q9i => walk_at "mine len"); (case q9j => walk_at "mine len"); (case q9hs => with_unfolding_all rfl); (case q9ht => intro _; with_unfolding_all rfl); k_whole); intro h' t' k' F' N'; (try k_sweep)))
  k_with "truthy str" => ((k_here; (with_reducible show wpAny _ _ (PySem.truthy (Value.str (mkS _) _)) _ _ _); k_dflt (refine' t_truthy ?q9x ?_; (case q9x => walk_at "mine len"); k_whole); intro k'))
  k_with "call builtin:len" => ((k_here; (with_reducible show wpAny _ _ (call (Value.builtin "len") [Value.str (mkS _) _]) _ _ _); k_dflt (refine' t_len ?q9x ?_; (case q9x => walk_at "mine len"); k_whole); intro k'))
  k_with "compareOp NotEq str str" => ((k_here; (with_reducible show wpAny _ _ (compareOp CmpOp.NotEq (Value.str (mkS _) _) _) _ _ _); k_dflt (refine' t_ne ?q9y ?_; (case q9y => walk_at "mine word"); k_whole)))
  k_with "compareOp Eq str str" => ((k_here; (with_reducible show wpAny _ _ (compareOp CmpOp.Eq (Value.str (mkS _) _) _) _ _ _); k_dflt (refine' t_eq ?q9y ?_; (case q9y => walk_at "mine word"); k_whole)))
  k_with "binaryOp Add str str" => ((k_here; k_dflt (refine' t_add ?q9x ?q9y ?q9l ?_; (case q9x => walk_at "mine word"); (case q9y => walk_at "mine word"); (case q9l => walk_at "mine len"); k_whole); intro t' k'))
  k_with "binaryOp Mult str int" => ((k_here; k_dflt (refine' t_mul ?q9y ?q9a ?q9b ?_; (case q9y => walk_at "mine word"); (case q9a => walk_at "mine len"); (case q9b => walk_at "mine len"); k_whole); intro t' k'))
  k_with "call builtin:str.rstrip" => ((k_here; k_dflt (refine' t_rstrip ?q9y ?q9x ?_; (case q9y => walk_at "mine word"); (case q9x => walk_at "mine len"); k_whole); intro t' k'))
  k_with "call builtin:str.lstrip" => ((k_here; k_dflt (refine' t_lstrip ?q9y ?q9x ?_; (case q9y => walk_at "mine word"); (case q9x => walk_at "mine len"); k_whole); intro t' k'))
  k_with "call builtin:str.startswith" => ((k_here; k_dflt (refine' t_starts ?q9y ?_; (case q9y => walk_at "mine word"); k_whole)))
  k_with "call builtin:str.endswith" => ((k_here; k_dflt (refine' t_ends ?q9y ?_; (case q9y => walk_at "mine word"); k_whole)))
  k_with "call builtin:str.split" => ((k_here; k_dflt (refine' t_split ?q9F ?q9N ?q9y ?q9x ?_; (case q9F => k_asm); (case q9N => k_asm); (case q9y => walk_at "mine word"); (case q9x => walk_at "mine len"); k_whole); intro ps' h' k' e' F' N'; (try k_sweep)))
  k_with "call builtin:str.join" => ((k_here; k_dflt (refine' t_join ?q9N ?q9m ?q9y ?q9l ?_; (case q9N => k_asm); (case q9m => k_mem); (case q9y => walk_at "mine word"); (case q9l => walk_at "mine len"); k_whole); intro t' k'))
  k_with "subscriptTail Name Name str int" => ((k_here; (with_reducible show wpAny _ _ (subscriptTail _ _ (Value.str (mkS _) _) _) _ _ _); k_dflt (refine' t_item ?q9x ?q9i ?q9j ?_ ?q9hs ?q9ht; (case q9x => walk_at "mine len"); (case q9i => walk_at "mine len"); (case q9j => walk_at "mine len"); (case q9hs => with_unfolding_all rfl); (case q9ht => intro _; with_unfolding_all rfl); k_whole); intro c' hc'))
  k_with "exec While Compare cons nil" => ((k_here; k_extra "mine while"))
  k_with "IntTurn ret" => (dsimp only [IntTurn])
  k_with "IntTurn next" => ((refine' int_turn_next ?q9F ?q9N ?q9m ?q9P; (case q9F => k_asm); (case q9N => k_asm); (case q9m => k_extra "mine measure"); (case q9P => k_extra "mine state")))
  k_with "exec If" => ((k_here; k_extra "mine if"))
  k_with "exec For Name Name cons nil" => ((k_here; k_extra "mine for"))
  k_with "pyIter ref" => ((k_here; k_extra "mine iter"))
  k_with "LoopStep3 next" => ((k_extra "mine step"))
  k_with "inplaceOp Add str str" => ((k_here; k_dflt (refine' t_iadd ?q9x ?q9y ?q9l ?_; (case q9x => walk_at "mine word"); (case q9y => walk_at "mine word"); (case q9l => walk_at "mine len"); k_whole); intro t' k'))
  k_with "TurnEnd next" => ((refine' acc_next ?q9F ?q9N ?q9m ?q9hlt ?_; (case q9F => k_asm); (case q9N => k_asm); (case q9m => k_mem); (case q9hlt => assumption)))
  k_with "TurnEnd cont" => ((refine' acc_cont ?q9F ?q9N ?q9m ?q9hlt ?_; (case q9F => k_asm); (case q9N => k_asm); (case q9m => k_mem); (case q9hlt => assumption)))
  k_with "truthy ref" => ((k_here; k_dflt (refine' t_truthyL ?q9N ?q9m ?q9z ?_; (case q9N => k_asm); (case q9m => k_mem); (case q9z => walk_at "mine len"); k_whole); intro k'))
  k_with "subscriptTail Name UnaryOp ref int" => ((k_here; k_dflt (refine' t_last ?q9N ?q9m ?q9e ?q9z ?_ ?q9s; (case q9N => k_asm); (case q9m => k_mem); (case q9e => first | assumption | (simp_all; done)); (case q9z => walk_at "mine len"); (case q9s => with_unfolding_all rfl); k_whole); intro q' p' e'))
  k_with "call builtin:list.append" => ((k_here; k_dflt (refine' t_append ?q9F ?q9N ?q9y ?q9U ?q9z ?_; (case q9F => k_asm); (case q9N => k_asm); (case q9y => walk_at "mine word"); (case q9U => k_upd); (case q9z => walk_at "mine len"); k_whole); intro h' F' N'; (try k_sweep)))
  k_with "call builtin:list.pop" => ((k_here; k_dflt (refine' t_pop ?q9F ?q9N ?q9e ?q9U ?q9z ?_; (case q9F => k_asm); (case q9N => k_asm); (case q9e => first | assumption | (simp_all; done)); (case q9U => k_upd); (case q9z => walk_at "mine len"); k_whole); intro h' v' F' N'; (try k_sweep)))
  k_with "truthy str" => ((k_here; (with_reducible show wpAny _ _ (PySem.truthy (Value.str (mkS [_]) _)) _ _ _); k_dflt (refine t_truthy1 ?_); intro k'))
  k_with "formatField str" => ((k_here; k_dflt (refine' t_field ?q9x ?_; (case q9x => walk_at "mine len"); k_whole); intro t' k'))
  k_with "exec If" => ((k_here; refine wpAny_If ?_))
  k_with "mine word" => (first | with_reducible exact w_slash | with_reducible exact w_dot | with_reducible exact w_dotdot | with_reducible exact w_nil | with_reducible exact w_star | with_reducible exact w_quest | with_reducible exact w_open | with_reducible exact w_bang | with_reducible exact w_shut | with_reducible exact w_hyph | with_reducible exact w_bsl | with_reducible exact w_bsl2 | with_reducible exact w_never | with_reducible exact w_hat | with_reducible exact w_bopen | with_reducible exact w_dots | with_reducible exact w_lazy | with_reducible exact w_par | with_reducible exact w_pre | with_reducible exact w_end | with_reducible rfl)
  k_with "getAttr ref true" => ((k_here; k_dflt (refine' w_bound ?q9F ?q9N ?q9m ?_; (case q9F => k_asm); (case q9N => k_asm); (case q9m => k_mem); k_whole); intro b' h' k' F' N' l1; (try k_lt l1)))
  k_with "getAttr ref" => ((k_here; k_dflt (refine' w_bound ?q9F ?q9N ?q9m ?_; (case q9F => k_asm); (case q9N => k_asm); (case q9m => k_mem); k_whole); intro b' h' k' F' N' l1; (try k_lt l1)))
  k_with "exec While BoolOp cons nil" => ((k_here; k_extra "mine while"))
  k_with "StandsA" => (exact standsA (by k_asm) (by k_mem))
  k_with "callWith ref" => ((k_here; k_dflt (refine' callWith_boundA ?q9N ?q9m ?_; (case q9N => k_asm); (case q9m => k_mem); k_whole)))
  k_with "And" => (((with_reducible show StandsA _ _ _ ∧ _); refine ⟨standsA (by k_asm) (by k_mem), ?_⟩; try dsimp only [List.nil_append, List.cons_append]))
  k_with "compareOp NotIn str str" => ((k_here; k_dflt (refine' t_notin' ?q9y ?q9c ?_; (case q9y => walk_at "mine word"); (case q9c => k_extra "mine notin"); k_whole)))
  k_with "call builtin:str.replace" => ((k_here; k_dflt (refine' t_replace ?q9hu ?q9hv ?q9huv ?q9y ?q9z ?q9r ?q9yz ?q9x ?_; (case q9y => walk_at "mine word"); (case q9z => walk_at "mine word"); (case q9hu => exact Nat.succ_ne_zero _); (case q9hv => exact Nat.succ_ne_zero _); (case q9huv => exact Nat.ne_of_lt (Nat.lt_succ_self _)); (case q9r => decide); (case q9yz => decide +kernel); (case q9x => walk_at "mine len"); k_whole); intro t' k'))
  k_with "joinParts" => ((k_here; k_dflt (first
  | (refine' t_jp_cons ?q9o ?_; (case q9o => first | exact w_nil | with_reducible rfl | rfl); k_whole)
  | (refine' t_jp_nil ?q9x ?_; (case q9x => walk_at "mine len"); k_whole; intro t' k'))))
  k_with "Exists" => ((k_dflt (refine' ⟨_, ?q9y, ?q9l, ?_⟩; (case q9y => walk_at "mine word"); (case q9l => walk_at "mine len"); k_whole)))
  k_with "compareOp IsNot str ref" => ((k_here; refine wpAny_isNot_other (by rfl) (by intro x; cases x) ?_))
  k_with "compareOp IsNot ref ref" => ((k_here; refine wpAny_isNot_self (by rfl) ?_))
  k_with "subscriptTail Name Constant str int" => ((k_here; (with_reducible show wpAny _ _ (subscriptTail _ _ (Value.str (mkS _) _) _) _ _ _); k_dflt (refine' t_item ?q9x ?q9i ?q9j ?_ ?q9hs ?q9ht; (case q9x => walk_at "mine len"); (case q9i => walk_at "mine len"); (case q9j => k_extra "mine first"); (case q9hs => with_unfolding_all rfl); (case q9ht => intro _; with_unfolding_all rfl); k_whole); intro c' hc'))
  k_with "execs cons" => ((k_here; k_extra "mine toks"))
  k_with "compareOp Is str ref" => ((k_here; refine wpAny_is_other (by rfl) (by intro x; cases x) ?_))
  k_with "compareOp Is ref ref" => ((k_here; refine wpAny_is_self (by rfl) ?_))
  k_with "compareOp In str str" => ((k_here; k_dflt (refine' t_in ?q9y ?_; (case q9y => walk_at "mine word"); k_whole)))
  k_with "TTurn ret" => (dsimp only [TTurn])
  k_with "TJoin next" => ((k_here; k_dflt (refine' tjoin ?q9F ?q9N ?q9e ?q9hm ?q9hi ?_; (case q9F => k_asm); (case q9e => exact rfl); (case q9N => k_extra "mine ledger"); (case q9hm => (intro y h1 h2; (repeat (first | (with_reducible exact rfl) | refine ite_off (by assumption) ?_)); (try exact rfl))); (case q9hi => exact rfl))))
  k_with "TTurn brk" => (dsimp only [TTurn])
  k_with "TTurn next" => ((k_here; k_dflt (refine' tturn_next ?q9F ?q9N ?q9e ?q9hm ?q9hi ?_ ?_; (case q9F => k_asm); (case q9e => exact rfl); (case q9N => k_extra "mine ledger"); (case q9hm => (intro y h1 h2; (repeat (first | (with_reducible exact rfl) | refine ite_off (by assumption) ?_)); (try exact rfl))); (case q9hi => exact rfl))))
  k_with "mine sub" => (first | exact fun _ h => h | (refine fun p hp => ?_; repeat (first | exact hp | refine List.Mem.tail _ ?_)))
  trivial
theorem lines_IlH4L_2 : True := by
  k_with "mine word" => (with_reducible exact w_ss)
  k_with "subscriptTail Name Slice ref ref" => ((k_here; (with_reducible show wpAny _ _ (subscriptTail _ (PySem.Expr.Slice none none (some _) _) (Value.ref _) (Value.ref _)) _ _ _); k_dflt (refine' krv_lit ?q9F ?q9N ?q9l ?q9k ?q9e ?_ ?q9s ?q9t ?q9z; (case q9F => k_asm); (case q9N => k_asm); (case q9l => exact News.isList (by k_asm) (by k_mem)); (case q9k => exact IsPart.int _ _); (case q9e => exact e_rev); (case q9s => with_unfolding_all rfl); (case q9t => kmk_pure); (case q9z => exact size_tv (by walk_at "mine len"))); intro D' h' F' N' l1; (try k_lt l1); (try k_sweep)))
  k_with "compareOp NotIn str ref" => ((k_here; k_dflt (refine' t_notintuple ?q9N ?q9m ?q9i ?q9z ?_; (case q9N => k_asm); (case q9m => k_mem); (case q9i => kde_strs); (case q9z => k_extra "mine menu"); k_whole)))
  k_with "binaryOp Add ref ref" => ((k_here; k_dflt (refine' t_addL ?q9F ?q9N ?q9a ?q9b ?q9e ?q9z ?_; (case q9F => k_asm); (case q9N => k_asm); (case q9a => exact News.isList (by k_asm) (by k_mem)); (case q9b => exact News.isList (by k_asm) (by k_mem)); (case q9e => first | exact e_cons | exact e_app | (refine' e_snoc ?q9w; (case q9w => walk_at "mine word"))); (case q9z => walk_at "mine len"); k_whole); intro D' h' F' N' l1; (try k_lt l1); (try k_sweep)))
  k_with "binaryOp Mult ref int" => ((k_here; k_dflt (refine' t_mulL ?q9F ?q9N ?q9m ?q9y ?q9a ?q9b ?_; (case q9F => k_asm); (case q9N => k_asm); (case q9m => k_mem); (case q9y => walk_at "mine word"); (case q9a => walk_at "mine len"); (case q9b => walk_at "mine len"); k_whole); intro D' h' F' N' l1; (try k_lt l1); (try k_sweep)))
  k_with "GTurn next" => ((k_here; k_dflt (refine' gk_next ?q9F ?q9N ?q9a ?q9b ?q9c ?q9d ?q9e ?q9f ?q9g ?q9h ?q9i ?_ ?_; (case q9F => k_asm); (case q9N => k_asm); (case q9a => (intro y h1 h2 h3; (repeat (first | (with_reducible exact rfl) | refine ite_off (by assumption) ?_)); (try exact rfl))); (case q9b => exact rfl); (case q9c => exact rfl); (case q9d => k_mem); (case q9e => k_mem); (case q9f => kcf_all); (case q9g => first | assumption | (refine neN ?_; lia)); (case q9h => assumption); (case q9i => k_mem))))
  k_with "mine endV" => ((refine' ret_of (by assumption) _ (vstr ?_) ?q9e2 ?q9e3 ?q9e4; (case q9e2 => k_asm); (case q9e3 => k_asm); (case q9e4 => walk_at "mine sub")))
  trivial
theorem ep_len {x : List Nat} {k : Int} {rs : List (List Nat × Tok)} (hx : x.length ≤ 100000) (h : EP x k rs) : rs.length ≤ 100001 ∧ rs ≠ [] ∧ (flat rs).length ≤ 800000 := by
  obtain ⟨h1, h2, h3, h6, h7, _⟩ := h
  exact ⟨by lia, h3, by lia⟩
theorem flat_last {q : List (List Nat × Tok)} {p : List Nat × Tok} {B : Nat} (h : (flat (q ++ [p])).length ≤ B) : p.1.length ≤ B := by
  rw [flat_app, List.length_append] at h
  have : (flat [p]).length = p.1.length := by simp [flat]
  lia
theorem txel {news : List (Addr × Obj)} {l r : List Nat} {t : Tok} (e : l = r) : TxEl news r (.str (mkS l) t) news := ⟨rfl, t, by rw [e]⟩
theorem bar_yes {c : Nat} (h : c ∈ [92, 38, 126, 124]) : [92] ++ [c] = barC c := by
  unfold barC
  rw [if_pos (by simp at h; lia)]; rfl
theorem bar_no {c : Nat} (h : ¬ c ∈ [92, 38, 126, 124]) : [] ++ [c] = barC c := by
  unfold barC
  rw [if_neg (by simp at h; lia)]; rfl
theorem setL_barred {s r : List Nat} (hs : s = 33 :: r) (hr : r ≠ []) : setL s = [91] ++ [94] ++ r.flatMap barC ++ [93] := by
  subst hs
  unfold setL
  rw [bar_rep, List.flatMap_cons]
  have h33 : barC 33 = [33] := by decide
  rw [h33]
  have hne : r.flatMap barC ≠ [] := by
    cases r with
    | nil => exact absurd rfl hr
    | cons c r =>
      rw [List.flatMap_cons]
      unfold barC
      split <;> simp
  unfold setB
  rw [if_neg (by simp), if_neg (by simpa using hne), if_pos (by simp)]
  simp
theorem setL_plain {s : List Nat} {c : Nat} (h : s[0]? = some c) (h33 : c ≠ 33) : setL s = [91] ++ (if c ∈ [94, 91] then [92] else []) ++ s.flatMap barC ++ [93] := by
  cases s with
  | nil => cases h
  | cons d r =>
    have hd : d = c := by simpa using h
    subst hd
    unfold setL
    rw [bar_rep, List.flatMap_cons]
    have hb : ∃ e q, barC d ++ r.flatMap barC = e :: q ∧ e ≠ 33 ∧ ((e = 94 ∨ e = 91) ↔ d ∈ [94, 91]) := by
      unfold barC
      by_cases g : d = 92 ∨ d = 38 ∨ d = 124 ∨ d = 126
      · rw [if_pos g]
        exact ⟨92, _, rfl, by decide, by simp; lia⟩
      · rw [if_neg g]
        exact ⟨d, _, rfl, h33, by simp⟩
    obtain ⟨e, q, e1, e2, e3⟩ := hb
    rw [e1]
    unfold setB
    rw [if_neg (by simp), if_neg (by simp [e2]), if_neg (by simp [e2])]
    by_cases g : d ∈ [94, 91]
    · rw [if_pos g, if_pos (by rcases e3.mpr g with z | z <;> simp [z])]; simp
    · rw [if_neg g, if_neg (by
        intro z
        apply g
        apply e3.mp
        simpa using z)]; simp
theorem slice_cons {x : List Nat} {S i : Nat} {c : Nat} (h : i < S) (hc : x[i]? = some c) : (x.take S).drop i = c :: (x.take S).drop (i + 1) := by
  have hl : i < (x.take S).length := by
    rw [List.length_take]
    have : i < x.length := by
      rcases Nat.lt_or_ge i x.length with q | q
      · exact q
      · rw [List.getElem?_eq_none q] at hc; cases hc
    lia
  rw [List.drop_eq_getElem_cons hl]
  congr 1
  rw [List.getElem_take]
  rw [List.getElem?_eq_getElem (by rw [List.length_take] at hl; lia)] at hc
  exact Option.some.inj hc
/-- a bracket's text, barred -/
theorem br_bar {x : List Nat} {k S : Int} (hS : ShutP x k S) (hk : 0 ≤ k) (h0 : ¬ S < 0) (hb : (x.take (k + 2).toNat).drop (k + 1).toNat = [33]) : stepL x k.toNat = (some ([91] ++ [94] ++ ((x.take S.toNat).drop (k + 2).toNat).flatMap barC ++ [93]), S.toNat + 1) := by
  have h := shut_hit hS hk h0
  have h33 := (one_slice (by lia)).mp hb
  rw [show (k + 1).toNat = k.toNat + 1 by lia] at h33
  have h3 := h.2.2.2.2 h33
  rw [step_hit h.1 h.2.1 h.2.2.1, show (k + 2).toNat = k.toNat + 1 + 1 by lia]
  rw [setL_barred (slice_cons (by lia) h33)]
  intro e
  have := congrArg List.length e
  rw [List.length_drop, List.length_take] at this
  simp at this
  lia
theorem br_plain {x : List Nat} {k S : Int} {c : Nat} (hS : ShutP x k S) (hk : 0 ≤ k) (h0 : ¬ S < 0) (hb : ¬ (x.take (k + 2).toNat).drop (k + 1).toNat = [33]) (hc : ((x.take S.toNat).drop (k + 1).toNat)[0]? = some c) :
    stepL x k.toNat = (some ([91] ++ (if c ∈ [94, 91] then [92] else []) ++ ((x.take S.toNat).drop (k + 1).toNat).flatMap barC ++ [93]), S.toNat + 1) := by
  have h := shut_hit hS hk h0
  have e1 : (k + 1).toNat = k.toNat + 1 := by lia
  have h33 : x[k.toNat + 1]? ≠ some 33 := fun q => hb ((one_slice (by lia)).mpr (by rw [e1]; exact q))
  rw [step_hit h.1 h.2.1 h.2.2.1]
  rw [e1] at hc ⊢
  rw [setL_plain hc]
  intro e
  subst e
  apply h33
  rw [List.getElem?_drop, List.getElem?_take] at hc
  split at hc
  · exact hc
  · cases hc
theorem br_esc {x : List Nat} {k S : Int} {c : Nat} (hS : ShutP x k S) (hk : 0 ≤ k) (h0 : ¬ S < 0) (hb : ¬ (x.take (k + 2).toNat).drop (k + 1).toNat = [33]) (hc : ((x.take S.toNat).drop (k + 1).toNat)[0]? = some c) (hm : c ∈ [94, 91]) :
    stepL x k.toNat = (some ([91] ++ [92] ++ ((x.take S.toNat).drop (k + 1).toNat).flatMap barC ++ [93]), S.toNat + 1) := by
  have := br_plain hS hk h0 hb hc
  rw [if_pos hm] at this
  exact this
theorem br_same {x : List Nat} {k S : Int} {c : Nat} (hS : ShutP x k S) (hk : 0 ≤ k) (h0 : ¬ S < 0) (hb : ¬ (x.take (k + 2).toNat).drop (k + 1).toNat = [33]) (hc : ((x.take S.toNat).drop (k + 1).toNat)[0]? = some c) (hm : ¬ c ∈ [94, 91]) :
    stepL x k.toNat = (some ([91] ++ [] ++ ((x.take S.toNat).drop (k + 1).toNat).flatMap barC ++ [93]), S.toNat + 1) := by
  have := br_plain hS hk h0 hb hc
  rw [if_neg hm] at this
  exact this
theorem esc_in {c : Nat} (h : c ∈ escSet) : escS c = [92] ++ [c] := by
  unfold escS escB
  rw [if_pos (by simpa [escSet] using h)]; rfl
theorem esc_out {c : Nat} (h : ¬ c ∈ escSet) : escS c = [] ++ [c] := by
  unfold escS escB
  rw [if_neg (by simpa [escSet] using h)]; rfl
/-- no bracket that is shut -/
theorem step_sign {x : List Nat} {k S : Int} {c : Nat} (hS : ShutP x k S) (hk : 0 ≤ k) (h0 : S < 0) (hc : x[k.toNat]? = some c) (h1 : ¬ [c] = [42]) (h2 : ¬ [c] = [63]) : stepL x k.toNat = (some (escS c), k.toNat + 1) := by
  by_cases h : [c] = [91]
  · rw [step_miss (at_of hc h) (shut_miss hS hk (at_of hc h) h0)]
    cases h; rfl
  · exact step_other hc h1 h2 h
theorem expr_end {x : List Nat} {rs : List (List Nat × Tok)} (e : rs.map (·.1) = runsL x) {p : List Nat × Tok} (hp : rs[0]? = some p) {q : List (List Nat × Tok)} {z : List Nat × Tok} (hz : rs = q ++ [z]) (hl : (1 : Int) < rs.length) :
    [40, 63, 115, 58] ++ p.1 ++ ((((rs.drop 1).dropLast).map (·.1)).filter ne0).flatMap runB ++ ([46, 42] ++ z.1) ++ [41, 92, 90] = exprT (runsL x) := by
  rw [← e]
  unfold exprT
  rw [if_pos (by rw [List.length_map]; lia)]
  have h1 : (rs.map (·.1))[0]?.getD [] = p.1 := by rw [List.getElem?_map, hp]; rfl
  have h2 : (rs.map (·.1)).getLast?.getD [] = z.1 := by rw [hz]; simp
  rw [h1, h2]
  simp
theorem expr_end1 {x : List Nat} {rs : List (List Nat × Tok)} (e : rs.map (·.1) = runsL x) {p : List Nat × Tok} (hp : rs[0]? = some p) (hl : ¬ (1 : Int) < rs.length) :
    [40, 63, 115, 58] ++ p.1 ++ ((((rs.drop 1).dropLast).map (·.1)).filter ne0).flatMap runB ++ [] ++ [41, 92, 90] = exprT (runsL x) := by
  rw [← e]
  unfold exprT
  rw [if_neg (by rw [List.length_map]; lia)]
  have h1 : (rs.map (·.1))[0]?.getD [] = p.1 := by rw [List.getElem?_map, hp]; rfl
  rw [h1]
  simp
theorem ne0_yes {c : List Nat} (h : c ≠ []) : ne0 c = true := decide_eq_true h
theorem ne0_no {c : List Nat} (h : ¬ c ≠ []) : ne0 c = false := decide_eq_false h
theorem elem_len {rs : List (List Nat × Tok)} {p : List Nat × Tok} (h : p ∈ rs) : p.1.length ≤ (flat rs).length := by
  induction rs with
  | nil => cases h
  | cons q r ih =>
    unfold flat at *
    rw [List.map_cons, List.flatten_cons, List.length_append]
    rcases List.mem_cons.mp h with rfl | h
    · lia
    · have := ih h; lia
theorem mem_len {rs : List (List Nat × Tok)} {c : List Nat} {u : Tok} (hl : (flat rs).length ≤ 800000) (h : (c, u) ∈ (rs.drop 1).dropLast) : c.length ≤ 800000 :=
  Nat.le_trans (elem_len (p := (c, u)) (List.mem_of_mem_drop (List.dropLast_subset _ h))) hl
theorem at_len {rs : List (List Nat × Tok)} {p : List Nat × Tok} (hl : (flat rs).length ≤ 800000) (h : rs[0]? = some p) : p.1.length ≤ 800000 := Nat.le_trans (elem_len (List.mem_of_getElem? h)) hl
theorem last_len9 {rs q : List (List Nat × Tok)} {p : List Nat × Tok} {B : Nat} (h : (flat rs).length ≤ B) (e : rs = q ++ [p]) : p.1.length ≤ B := flat_last (e ▸ h)
theorem mem_lst1 {D : Addr} {l : List Nat} {t : Tok} {n : Nat} {all : List (Addr × Obj)} (h : (D, listOf #[Value.str (mkS l) t] n) ∈ all) : (D, lstT [(l, t)] n) ∈ all := h
theorem lines_IlH4_1 : True := by
  k_with "exec Assign cons IfExp" => ((k_here; k_extra "mine assign"))
  k_with "call builtin:str.find" => ((k_here; k_dflt (refine' t_find3 ?q9y ?q9i ?_; (case q9y => walk_at "mine word"); (case q9i => walk_at "mine len"); k_whole); intro r' hr'))
  k_with "mine word" => (first | with_reducible exact w_escset | with_reducible exact w_hatopen | with_reducible exact w_barset)
  k_with "compareOp In str str" => ((k_here; k_dflt (refine' t_inW ?q9x ?_; (case q9x => walk_at "mine word"); k_whole)))
  k_with "getItem ref int" => ((k_here; k_dflt (refine' t_getLast ?q9N ?q9m ?q9e ?q9z ?_; (case q9N => k_asm); (case q9m => k_mem); (case q9e => assumption); (case q9z => walk_at "mine len"); k_whole); intro q' p' e'; subst e'; have hp9 := flat_last hl3))
  k_with "setItem ref int" => ((k_here; k_dflt (refine' t_setLast ?q9F ?q9N ?q9y ?q9U ?_; (case q9F => k_asm); (case q9N => k_asm); (case q9y => walk_at "mine word"); (case q9U => k_upd); k_whole); intro h' F' N'; (try k_sweep)))
  k_with "subscriptTail Name Constant ref int" => ((k_here; k_dflt (refine' t_firstL ?q9N ?q9m ?q9e ?_ ?q9s; (case q9N => k_asm); (case q9m => k_mem); (case q9e => assumption); (case q9s => with_unfolding_all rfl); k_whole); intro p' hp'; have hp8 := at_len hl3 hp'))
  k_with "call builtin:len" => ((k_here; (with_reducible show wpAny _ _ (call (Value.builtin "len") [Value.ref _]) _ _ _); k_dflt (refine' t_lenL ?q9N ?q9m ?q9z ?_; (case q9N => k_asm); (case q9m => k_mem); (case q9z => walk_at "mine len"); k_whole); intro k'))
  k_with "subscriptTail Name Slice ref ref" => ((k_here; (with_reducible show wpAny _ _ (subscriptTail _ (PySem.Expr.Slice (some _) (some _) none _) (Value.ref _) (Value.ref _)) _ _ _); k_dflt (refine' kmk_slice_lit ?q9F ?q9N ?q9l ?q9p ?q9q ?q9e ?_ ?q9s ?q9t ?q9z; (case q9F => k_asm); (case q9N => k_asm); (case q9l => exact News.isList (by k_asm) (by k_mem)); (case q9p => kmk_part); (case q9q => kmk_part); (case q9e => exact slice_mid_tv _); (case q9s => with_unfolding_all rfl); (case q9t => kmk_pure); (case q9z => exact size_tv (by walk_at "mine len"))); intro D' h' F' N' l1; (try k_lt l1); (try k_sweep)))
  k_with "eval ListComp" => ((k_here; k_extra "mine comp"))
  k_with "SrcS" => ((k_here; k_dflt (refine' src_textF barC 200000 ?q9h ?q9F ?q9N ?q9l ?q9B ?_ ?_; (case q9h => exact rfl); (case q9F => k_asm); (case q9N => k_asm); (case q9l => walk_at "mine len"); (case q9B => (refine Nat.le_trans (flat_len2 _) ?_; simp only [List.length_drop, List.length_take]; first | exact min_le2 hx (by decide) | lia))); rotate_left; intro D9 h9 tk9 ts9 e9 hb9 F9 N9 o19; (try simp only [PyProof.Rows.LCg.Off1, and_true] at o19); rotate_left; intro c9 u9 I9 oI9 C9 oC9 D9 m9 ys9 h9 tk9 E9 hc9 hC9 hx9 F9 N9 off9 ne9))
  k_with "CompSrcT" => ((k_here; k_dflt (refine' src_listTF runB ne0 2000000 ?q9h ?q9F ?q9N ?q9m ?q9l ?q9B ?_ ?_; (case q9h => exact rfl); (case q9F => k_asm); (case q9N => k_asm); (case q9m => k_mem); (case q9l => exact Nat.le_trans (drop_rs _) (by lia)); (case q9B => exact mid_len hl1 hl3)); rotate_left; intro D9 h9 tk9 ts9 e9 hb9 F9 N9 o19; (try simp only [PyProof.Rows.LCg.Off1, and_true] at o19); rotate_left; intro c9 u9 I9 oI9 C9 oC9 D9 m9 ys9 h9 tk9 E9 hc9 hC9 hx9 F9 N9 off9 ne9; have hc8 := mem_len hl3 hc9))
  k_with "call builtin:str.join" => ((k_here; k_dflt (refine' t_joinE ?q9N ?q9m ?q9y ?q9e ?q9l ?_; (case q9N => k_asm); (case q9m => k_mem); (case q9y => walk_at "mine word"); (case q9e => assumption); (case q9l => walk_at "mine len"); k_whole); intro t' k'))
  k_with "CompEnd" => ((k_dflt (refine' PyProof.Rows.LCg.CompEnd.intro ?q9F ?q9N _ (fun p hp => hp) ?q9o ?q9S ?q9r; (case q9F => k_asm); (case q9N => k_asm); (case q9o => assumption); (case q9S => first | exact True.intro | exact Or.inr ⟨_, by k_mem, rfl, _, rfl⟩); (case q9r => k_extra "mine cend"))))
  k_with "TxEl" => ((k_dflt (refine txel ?_)))
  k_with "JoinInt" => ((k_here; k_dflt (first | (refine' join_set ?q9F ?q9N ?_; (case q9F => k_asm); (case q9N => k_asm)) | (refine' join_same ?q9F ?q9m ?q9N ?_; (case q9F => k_asm); (case q9N => k_asm); (case q9m => exact rfl)))))
  k_with "subscriptTail Name UnaryOp ref int" => ((k_here; k_dflt (refine' t_last ?q9N ?q9m ?q9e ?q9z ?_ ?q9s; (case q9N => k_asm); (case q9m => k_mem); (case q9e => assumption); (case q9z => walk_at "mine len"); (case q9s => with_unfolding_all rfl); k_whole); intro q' p' e'; have hp7 := last_len9 hl3 e'))
  k_with "ETurn next" => ((k_here; k_dflt (refine' eturn_next ?q9F ?q9N ?q9hm ?q9a ?q9r ?q9d ?q9s ?q9n ?q9lt ?q9P; (case q9F => k_asm); (case q9N => k_asm); (case q9hm => (intro y h1 h2 h3 h4 h5 h6 h7; (repeat (first | (with_reducible exact rfl) | refine ite_off (by assumption) ?_)); (try exact rfl))); (case q9a => exact rfl); (case q9r => exact rfl); (case q9d => k_mem); (case q9s => kcf_all); (case q9n => k_all); (case q9lt => first | lia | (have h9 := shut_hit hS hk0 (by assumption); lia)); (case q9P => k_extra "mine ep"))))
  k_with "mine len" => ((simp only [List.length_drop, List.length_take]; exact min_le9 hx (by decide)))
  trivial
set_option maxHeartbeats 8000000 in
theorem c_expr (prog : Program) (w : World) (p : Program) (loose : List Str) (mean : ExcName → Option Value) (mg mb : Str → Option Value) (x : List Nat) (t : Tok) (hx : x.length ≤ 100000) (hy : 45 ∉ x) :
    Ct prog w p loose mean mg mb 290 1 24 [.str (mkS x) t] (fun t => .str (mkS (exprT (runsL x))) t) := by
  k_with "mine while" => refine Stop.go ?_
  k_with "mine assign" => ((with_reducible show wpAny _ _ (exec (Stmt.Assign [Expr.Name (Str.ofString "shut") _] _ _) _) _ _ _); refine Stop.go ?_)
  k_with "mine cend" => first | exact txel (bar_yes (by assumption)) | exact txel (bar_no (by assumption)) | exact ⟨ne0_yes (by assumption), txel rfl⟩ | exact ⟨ne0_no (by assumption), rfl⟩
  k_with "mine comp" => first | ((with_reducible show wpAny _ _ (eval (Expr.ListComp _ [Comprehension.mk _ _ [] _] _ _) _) _ _ _); k_dflt (refine ListComp_S (F₀ := by k_asm) (by with_unfolding_all rfl) (by decide) (by rfl) (by decide) (by rfl) ?_)) | refine Stop.go ?_
  walk_at "mine enter"
  k_steps
  refine Stop.of ?_
  rename Fr _ _ _ _ => Fw
  rename News _ _ _ _ => Nw
  rw [w_nil] at Nw
  refine' while_expr (base := news) (EP x) x.length Fw Nw rfl rfl (mem_lst1 (.tail _ (.head _))) ?hs ?hn (ep_start x _) ?turn ?E
  case hs => kcf_all
  case hn => k_all
  case E => with_unfolding_all passes_own
  case turn =>
    clear Fw Nw
    intro k t rs D nD v1 v2 v3 v4 v5 h₁ tk₁ hP hne F1 N1
    have hk0 := hP.1
    have hk1 := hP.2.1
    have hl := ep_len hx hP
    have hl1 := hl.1
    have hl2 := hl.2.1
    have hl3 := hl.2.2
    k_steps
    · refine Stop.of ?_
      rename Fr _ _ _ _ => F2
      rename News _ _ _ _ => N2
      refine if_joinF eH (fun S => ShutP x k S) F2 N2 ?_ ?_
      · refine wpAny_Assign_Name ?_
        k_steps
        all_goals (first | exact shut_barred hk0 (by assumption) (by assumption) (by assumption) (by assumption) | exact shut_plain hk0 (by assumption) (by assumption) (by assumption) (by assumption) | exact shut_none (by assumption) (by assumption) | trace_state)
      · intro S t3 h3 tk3 F3 N3 hS
        clear F2 N2
        k_with "mine ep" => first | exact ep_star hP (by assumption) (step_star (at_of (by assumption) (by assumption))) | exact ep_put hP (by assumption) (step_q (at_of (by assumption) (by assumption))) (by lia) | exact ep_put hP (by assumption) ((step_sign hS hk0 (by assumption) (by assumption) (by assumption) (by assumption)).trans (by rw [esc_in (by assumption)])) (by lia) | exact ep_put hP (by assumption) ((step_sign hS hk0 (by assumption) (by assumption) (by assumption) (by assumption)).trans (by rw [esc_out (by assumption)])) (by lia) | exact ep_put hP (by assumption) (br_bar hS hk0 (by assumption) (by assumption)) (by lia) | exact ep_put hP (by assumption) (br_esc hS hk0 (by assumption) (by assumption) (by assumption) (by assumption)) (by lia) | exact ep_put hP (by assumption) (br_same hS hk0 (by assumption) (by assumption) (by assumption) (by assumption)) (by lia)
        k_with "mine first" => (have h9 := shut_hit hS hk0 (by assumption); simp only [List.length_drop, List.length_take]; lia)
        k_steps
    · refine Stop.of ?_
      k_dflt (refine PyProof.Rows.LCt.ListComp_T (F₀ := by k_asm) (by with_unfolding_all rfl) (by decide) (by rfl) (by decide) (by rfl) ?_)
      k_steps
      all_goals walk_at "mine endV"
      all_goals (first | exact congrArg mkS (expr_end (ep_end hP (by assumption)) (by assumption) (by assumption) (by assumption)) | exact congrArg mkS (expr_end1 (ep_end hP (by assumption)) (by assumption) (by assumption)) | trace_state)

end Mine
end -- IlH4
section -- IlP1
theorem Mine.none_IlP1 : True := by
  k_with_none
  trivial
open PySem PySem.W PyProof.Rows PySem.Calls PySem.Spec PySem.Builtin PySem.Builtin.Str
namespace Mine
/-- the steps through a pattern, stars uncollapsed -/
noncomputable def stepsGo (x : List Nat) : Nat → Nat → List (Option (List Nat))
  | 0, _ => []
  | f + 1, i => if i < x.length then (stepL x i).1 :: stepsGo x f (stepL x i).2 else []
theorem trans_steps (x : List Nat) : ∀ (f i : Nat) (acc : List (Option (List Nat))), transGo x f i acc = (stepsGo x f i).foldl addL acc
  | 0, _, _ => rfl
  | f + 1, i, acc => by
    unfold transGo stepsGo
    split
    · rw [trans_steps x f]; rfl
    · rfl
theorem runs_steps (x : List Nat) : ∀ (f i : Nat) (acc : List (List Nat)), runGo x f i acc = (stepsGo x f i).foldl putL acc
  | 0, _, _ => rfl
  | f + 1, i, acc => by
    unfold runGo stepsGo
    split
    · rw [runs_steps x f]; rfl
    · rfl
theorem setB_ne (s : List Nat) : setB s ≠ [] := by
  unfold setB
  (repeat' split) <;> simp
theorem step_ne (x : List Nat) (i : Nat) {a : List Nat} (h : (stepL x i).1 = some a) : a ≠ [] := by
  unfold stepL at h
  split at h
  · cases h
  · cases h; simp
  · split at h
    · cases h; simp
    · cases h; exact setB_ne _
  · cases h
    unfold escS
    split <;> simp
  · cases h
theorem steps_ne (x : List Nat) : ∀ f i a, some a ∈ stepsGo x f i → a ≠ []
  | 0, _, _, h => by cases h
  | f + 1, i, a, h => by
    unfold stepsGo at h
    split at h
    · rcases List.mem_cons.mp h with h | h
      · exact step_ne x i h.symm
      · exact steps_ne x f _ a h
    · cases h
/-- the text of the steps: behind a star, and ahead of the first -/
noncomputable def eG : List Nat → List (Option (List Nat)) → List Nat
  | run, some a :: r => eG (run ++ a) r
  | run, none :: r => (if run = [] then [] else runB run) ++ eG [] r
  | run, [] => [46, 42] ++ run
noncomputable def eL : List (Option (List Nat)) → List Nat
  | some a :: r => a ++ eL r
  | none :: r => eG [] r
  | [] => []
noncomputable def exB (rs : List (List Nat)) : List Nat :=
  rs[0]?.getD [] ++ (((rs.drop 1).dropLast).filter ne0).flatMap runB ++ (if rs.length > 1 then [46, 42] ++ rs.getLast?.getD [] else [])
theorem exB_G : ∀ (ss : List (Option (List Nat))) (p : List Nat) (mid : List (List Nat)) (r : List Nat),
    exB (ss.foldl putL (p :: mid ++ [r])) = p ++ (mid.filter ne0).flatMap runB ++ eG r ss
  | [], p, mid, r => by
    unfold exB eG
    have h1 : (p :: mid ++ [r]).drop 1 = mid ++ [r] := rfl
    rw [List.foldl_nil, h1, List.dropLast_concat, List.getLast?_concat, if_pos (by simp)]
    simp
  | some a :: ss, p, mid, r => by
    rw [List.foldl_cons]
    have : putL (p :: mid ++ [r]) (some a) = p :: mid ++ [r ++ a] := by
      unfold putL
      rw [List.dropLast_concat, List.getLast?_concat]; rfl
    rw [this, exB_G ss p mid (r ++ a)]
    rfl
  | none :: ss, p, mid, r => by
    rw [List.foldl_cons]
    have : putL (p :: mid ++ [r]) none = p :: (mid ++ [r]) ++ [[]] := by
      unfold putL
      simp
    rw [this, exB_G ss p (mid ++ [r]) [], List.filter_append, List.flatMap_append]
    have e2 : eG r (none :: ss) = (if r = [] then [] else runB r) ++ eG [] ss := rfl
    rw [e2]
    by_cases h : r = []
    · subst h; simp [ne0]
    · have h1 : ne0 r = true := decide_eq_true h
      rw [if_neg h, List.filter_cons_of_pos h1]
      simp
theorem exB_L : ∀ (ss : List (Option (List Nat))) (r : List Nat), exB (ss.foldl putL [r]) = r ++ eL ss
  | [], r => by unfold exB eL; simp
  | some a :: ss, r => by
    rw [List.foldl_cons]
    have : putL [r] (some a) = [r ++ a] := rfl
    rw [this, exB_L ss (r ++ a), List.append_assoc]; rfl
  | none :: ss, r => by
    rw [List.foldl_cons]
    have : putL [r] none = r :: [] ++ [[]] := rfl
    rw [this, exB_G ss r [] []]
    simp [eL]
/-- stars that stand side by side are one -/
noncomputable def colL : Bool → List (Option (List Nat)) → List (Option (List Nat))
  | _, [] => []
  | _, some a :: r => some a :: colL false r
  | b, none :: r => if b then colL true r else none :: colL true r
theorem add_col : ∀ (ss acc : List (Option (List Nat))), ss.foldl addL acc = acc ++ colL (decide (acc.getLast? = some none)) ss
  | [], acc => by simp [colL]
  | some a :: ss, acc => by
    have : addL acc (some a) = acc ++ [some a] := by unfold addL; simp
    rw [List.foldl_cons, this, add_col ss, List.getLast?_concat]
    have : decide (some (some a) = some (none : Option (List Nat))) = false := by simp
    rw [this]
    simp [colL]
  | none :: ss, acc => by
    rw [List.foldl_cons]
    by_cases h : acc.getLast? = some none
    · have : addL acc none = acc := by unfold addL; simp [h]
      rw [this, add_col ss, decide_eq_true h]
      simp [colL]
    · have : addL acc none = acc ++ [none] := by unfold addL; simp [h]
      rw [this, add_col ss, List.getLast?_concat, decide_eq_false h]
      simp [colL]
theorem go_col : ∀ (ss : List (Option (List Nat))) (run : List Nat) (b : Bool), (∀ a, some a ∈ ss → a ≠ []) → (b = true → run = []) → (b = false → run ≠ []) → goT run (colL b ss) = eG run ss
  | [], run, b, _, _, _ => rfl
  | some a :: ss, run, b, h, _, _ => by
    have ha := h a (.head _)
    show goT (run ++ a) (colL false ss) = eG (run ++ a) ss
    exact go_col ss (run ++ a) false (fun a h' => h a (.tail _ h')) (fun e => by cases e) (fun _ e => ha (List.append_eq_nil_iff.mp e).2)
  | none :: ss, run, b, h, h1, h2 => by
    have ih := go_col ss [] true (fun a h' => h a (.tail _ h')) (fun _ => rfl) (fun e => by cases e)
    have e2 : eG run (none :: ss) = (if run = [] then [] else runB run) ++ eG [] ss := rfl
    rw [e2]
    cases b with
    | true =>
      have := h1 rfl
      subst this
      exact ih
    | false =>
      rw [if_neg (h2 rfl), ← ih]; rfl
theorem lead_col : ∀ (ss : List (Option (List Nat))), (∀ a, some a ∈ ss → a ≠ []) → leadT (colL false ss) = eL ss
  | [], _ => rfl
  | some a :: ss, h => by
    show a ++ leadT (colL false ss) = a ++ eL ss
    rw [lead_col ss fun a h' => h a (.tail _ h')]
  | none :: ss, h => go_col ss [] true (fun a h' => h a (.tail _ h')) (fun _ => rfl) (fun e => by cases e)
theorem expr_eq (x : List Nat) : exprT (runsL x) = fnL x := by
  have e1 : exprT (runsL x) = [40, 63, 115, 58] ++ exB (runsL x) ++ [41, 92, 90] := by
    unfold exprT exB; simp only [List.append_assoc]
  rw [e1]
  unfold runsL fnL transL
  rw [runs_steps, trans_steps, exB_L, add_col]
  have : decide (([] : List (Option (List Nat))).getLast? = some none) = false := rfl
  rw [this, List.nil_append, List.nil_append, List.nil_append, lead_col _ (fun a h => steps_ne x _ _ a h)]
end Mine
end -- IlP1
section -- IlP2
theorem Mine.none_IlP2 : True := by
  k_with_none
  trivial
open PySem PySem.W PyProof.Rows PySem.Calls PySem.Spec PySem.Builtin PySem.Builtin.Str
namespace Mine
noncomputable abbrev dd : List Nat := [46, 46]
/-- the law's step, from behind -/
noncomputable def strR (c : List Nat) (st : List (List Nat) × Nat) : List (List Nat) × Nat := strStep st c
noncomputable def strF (cs : List (List Nat)) : List (List Nat) × Nat := cs.foldr strR ([], 0)
theorem strAll_F (x : List Nat) : strAll x = strF (splitL 47 x) := by
  unfold strAll strF
  rw [List.foldl_reverse]; rfl
theorem strF_cons (c : List Nat) (cs : List (List Nat)) : strF (c :: cs) = strStep (strF cs) c := rfl
theorem strF_nil (cs : List (List Nat)) : strF ([] :: cs) = strF cs := by
  rw [strF_cons]
  unfold strStep
  rw [if_neg (by simp), if_neg (by simp), if_neg (by simp)]
noncomputable def ddR (ab : Bool) (n : Nat) : List (List Nat) := if ab then [] else List.replicate n dd
theorem norm_fold (ab : Bool) : ∀ (cs : List (List Nat)) (a : Nat) (ks : List (List Nat)), (∀ k ∈ ks, k ≠ dd) →
    cs.foldl (normStep ab) (ddR ab a ++ ks) = ddR ab (a + ((strF cs).2 - ks.length)) ++ ks.take (ks.length - (strF cs).2) ++ (strF cs).1
  | [], a, ks, _ => by
    show ddR ab a ++ ks = ddR ab (a + (0 - ks.length)) ++ ks.take (ks.length - 0) ++ []
    simp
  | c :: cs, a, ks, hk => by
    rw [List.foldl_cons, strF_cons]
    by_cases h0 : c = [] ∨ c = [46]
    · have e1 : normStep ab (ddR ab a ++ ks) c = ddR ab a ++ ks := by unfold normStep; rw [if_pos h0]
      have e2 : strStep (strF cs) c = strF cs := by
        have hm : ¬ c ∉ ([[], [46]] : List (List Nat)) := fun q => q (by rcases h0 with h | h <;> simp [h])
        have hd : ¬ c = [46, 46] := by rcases h0 with h | h <;> simp [h]
        unfold strStep
        rw [if_neg hd, if_neg (fun q => hm q.1), if_neg hm]
      rw [e1, e2]
      exact norm_fold ab cs a ks hk
    · have hm : c ∉ ([[], [46]] : List (List Nat)) := by simpa using h0
      by_cases hd : c = dd
      · have e2 : strStep (strF cs) c = ((strF cs).1, (strF cs).2 + 1) := by unfold strStep; rw [if_pos hd]
        rw [e2]
        rcases List.eq_nil_or_concat ks with rfl | ⟨q, p, rfl⟩
        · cases ab with
          | true =>
            have e1 : normStep true (ddR true a ++ []) c = ddR true a ++ [] := by
              unfold normStep
              rw [if_neg h0, if_neg (by simp [ddR, hd])]
              rfl
            rw [e1, norm_fold true cs a [] hk]
            simp [ddR]
          | false =>
            have e1 : normStep false (ddR false a ++ []) c = ddR false (a + 1) ++ [] := by
              unfold normStep
              rw [if_neg h0, if_pos (by
                right
                cases a with
                | zero => left; exact ⟨rfl, rfl⟩
                | succ a => right; simp [ddR, List.replicate_succ', dd])]
              rw [hd]
              simp [ddR, List.replicate_succ']
            rw [e1, norm_fold false cs (a + 1) [] hk]
            have : a + 1 + ((strF cs).2 - ([] : List (List Nat)).length) = a + ((strF cs).2 + 1 - ([] : List (List Nat)).length) := by simp; lia
            rw [this]
            simp
        · rw [List.concat_eq_append] at hk ⊢
          have hp : p ≠ dd := hk p (by simp)
          have e1 : normStep ab (ddR ab a ++ (q ++ [p])) c = ddR ab a ++ q := by
            unfold normStep
            rw [if_neg h0, if_neg (by
              rintro (h | ⟨_, h⟩ | h)
              · exact h hd
              · simp at h
              · rw [← List.append_assoc, List.getLast?_concat] at h
                exact hp (Option.some.inj h))]
            rw [← List.append_assoc, List.dropLast_concat]
          rw [e1, norm_fold ab cs a q fun k h => hk k (by simp [h])]
          have l1 : (q ++ [p]).length = q.length + 1 := by simp
          rw [l1, show q.length + 1 - ((strF cs).2 + 1) = q.length - (strF cs).2 by lia, show (strF cs).2 + 1 - (q.length + 1) = (strF cs).2 - q.length by lia]
          rw [List.take_append_of_le_length (by lia)]
      · have e1 : normStep ab (ddR ab a ++ ks) c = ddR ab a ++ (ks ++ [c]) := by
          unfold normStep
          rw [if_neg h0, if_pos (.inl hd), List.append_assoc]
        rw [e1, norm_fold ab cs a (ks ++ [c]) (by
          intro k h
          rcases List.mem_append.mp h with h | h
          · exact hk k h
          · rw [List.mem_singleton.mp h]; exact hd)]
        have l1 : (ks ++ [c]).length = ks.length + 1 := by simp
        rw [l1]
        by_cases hu : (strF cs).2 = 0
        · have e2 : strStep (strF cs) c = (c :: (strF cs).1, (strF cs).2) := by
            unfold strStep; rw [if_neg hd, if_neg (fun q => q.2 hu), if_pos hm]
          rw [e2]
          dsimp only
          rw [hu, Nat.sub_zero, List.take_of_length_le (by simp)]
          simp
        · have e2 : strStep (strF cs) c = ((strF cs).1, (strF cs).2 - 1) := by
            unfold strStep; rw [if_neg hd, if_pos ⟨hm, hu⟩]
          rw [e2]
          dsimp only
          rw [show (strF cs).2 - (ks.length + 1) = (strF cs).2 - 1 - ks.length by lia, show ks.length + 1 - (strF cs).2 = ks.length - ((strF cs).2 - 1) by lia]
          rw [List.take_append_of_le_length (by lia)]
theorem norm_rel (cs : List (List Nat)) : cs.foldl (normStep false) [] = List.replicate (strF cs).2 dd ++ (strF cs).1 := by
  have := norm_fold false cs 0 [] (by simp)
  simpa [ddR] using this
theorem norm_abs (cs : List (List Nat)) : cs.foldl (normStep true) [] = (strF cs).1 := by
  have := norm_fold true cs 0 [] (by simp)
  simpa [ddR] using this
theorem split_slash (l : List Nat) : splitL 47 (47 :: l) = [] :: splitL 47 l := by
  show (if (47 : Nat) = 47 then _ else _) = _
  rw [if_pos rfl]
theorem straight_eq (x : List Nat) : straightL x = normL x := by
  by_cases h1 : x.take 1 = [47]
  · obtain ⟨y, rfl⟩ : ∃ y, x = 47 :: y := by
      cases x with
      | nil => cases h1
      | cons c y => exact ⟨y, by simp at h1; rw [h1]⟩
    unfold straightL normL
    rw [if_neg (fun q => q h1)]
    by_cases h2 : y.take 1 = [47] ∧ (y.drop 1).take 1 ≠ [47]
    · obtain ⟨h2, h3⟩ := h2
      obtain ⟨z, rfl⟩ : ∃ z, y = 47 :: z := by
        cases y with
        | nil => cases h2
        | cons c z => exact ⟨z, by simp at h2; rw [h2]⟩
      have h4 : z.take 1 ≠ [47] := h3
      have h5 : ((47 :: 47 :: z).take 3).drop 2 ≠ [47] := h4
      have eB : rootB (47 :: 47 :: z) = [47, 47] := by
        unfold rootB
        rw [if_neg (fun q => q rfl), if_neg (by
          rintro (q | q)
          · exact q rfl
          · exact h5 q)]
        rfl
      have eC : rootC (47 :: 47 :: z) = z := by
        unfold rootC
        rw [if_neg (fun q => q rfl), if_neg (by
          rintro (q | q)
          · exact q rfl
          · exact h5 q)]
        rfl
      have eA : strAll (47 :: 47 :: z) = strF (splitL 47 z) := by
        rw [strAll_F, split_slash, split_slash, strF_nil, strF_nil]
      have eN : normAll (47 :: 47 :: z) = [47, 47] ++ joinL [47] (strF (splitL 47 z)).1 := by
        unfold normAll
        rw [eB, eC, decide_eq_true (by simp), norm_abs]
      rw [eN, eA, if_pos ⟨rfl, h5⟩, if_neg (by simp), if_neg (by simp)]
    · have h5 : ¬ ((47 :: y).take 2 = [47, 47] ∧ ((47 :: y).take 3).drop 2 ≠ [47]) := by
        rintro ⟨a, b⟩
        apply h2
        have a' : y.take 1 = [47] := by simpa using a
        refine ⟨a', fun q => b ?_⟩
        have : ((47 :: y).take 3).drop 2 = (y.drop 1).take 1 := by
          cases y with
          | nil => rfl
          | cons c z => cases z <;> rfl
        rw [this, q]
      have h6 : ((47 :: y).take 2).drop 1 ≠ [47] ∨ ((47 :: y).take 3).drop 2 = [47] := by
        rcases Classical.em (((47 :: y).take 3).drop 2 = [47]) with q | q
        · exact .inr q
        · left
          intro e
          apply h5
          refine ⟨?_, q⟩
          have : ((47 :: y).take 2).drop 1 = y.take 1 := by cases y <;> rfl
          rw [this] at e
          simpa using e
      have eB : rootB (47 :: y) = [47] := by
        unfold rootB
        rw [if_neg (fun q => q rfl), if_pos h6]
      have eC : rootC (47 :: y) = y := by
        unfold rootC
        rw [if_neg (fun q => q rfl), if_pos h6]; rfl
      have eA : strAll (47 :: y) = strF (splitL 47 y) := by rw [strAll_F, split_slash, strF_nil]
      have eN : normAll (47 :: y) = [47] ++ joinL [47] (strF (splitL 47 y)).1 := by
        unfold normAll
        rw [eB, eC, decide_eq_true (by simp), norm_abs]
      rw [eN, eA, if_neg h5, if_neg (by simp), if_neg (by simp)]
  · have eB : rootB x = [] := by unfold rootB; rw [if_pos h1]
    have eC : rootC x = x := by unfold rootC; rw [if_pos h1]
    have eN : normAll x = joinL [47] (List.replicate (strAll x).2 [46, 46] ++ (strAll x).1) := by
      unfold normAll
      rw [eB, eC, decide_eq_false (by simp), norm_rel, strAll_F]; rfl
    unfold straightL normL
    rw [if_pos h1, eN]
    by_cases h : x = []
    · subst h
      rw [if_pos rfl]; rfl
    · rw [if_neg h]
end Mine
end -- IlP2
section -- IlP3
theorem Mine.none_IlP3 : True := by
  k_with_none
  trivial
open PySem PySem.W PyProof.Rows PySem.Calls PySem.Spec PySem.Builtin PySem.Builtin.Str
namespace Mine
/-! the last name -/
theorem rf_none {c : Nat} {l : List Nat} (h : c ∉ l) : rfindL c l = -1 := by
  rcases rfindL_spec c l with ⟨e, _⟩ | ⟨i, _, hi, _⟩
  · exact e
  · exact absurd (List.mem_of_getElem? hi) h
theorem rf_last {c : Nat} {a b : List Nat} (h : c ∉ b) : rfindL c (a ++ c :: b) = (a.length : Int) := by
  induction a with
  | nil =>
    show (if 0 ≤ rfindL c b then rfindL c b + 1 else if c = c then 0 else -1) = _
    rw [rf_none h]; simp
  | cons d a ih =>
    show (if 0 ≤ rfindL c (a ++ c :: b) then rfindL c (a ++ c :: b) + 1 else _) = _
    rw [ih, if_pos (by lia)]
    simp
theorem cut_last (c : Nat) (l : List Nat) : c ∉ l ∨ ∃ a b, l = a ++ c :: b ∧ c ∉ b := by
  induction l with
  | nil => left; simp
  | cons d l ih =>
    rcases ih with h | ⟨a, b, e, h⟩
    · by_cases q : d = c
      · right; exact ⟨[], l, by rw [q]; rfl, h⟩
      · left
        intro m
        rcases List.mem_cons.mp m with m | m
        · exact q m.symm
        · exact h m
    · right; exact ⟨d :: a, b, by rw [e]; rfl, h⟩
theorem base_free {x : List Nat} (h : 47 ∉ x) : baseL x = x := by unfold baseL; rw [rf_none h]; rfl
theorem base_app {a b : List Nat} (h : 47 ∉ b) : baseL (a ++ 47 :: b) = b := by
  unfold baseL
  rw [rf_last h, show ((a.length : Int) + 1).toNat = (a ++ [47]).length by simp]
  rw [show a ++ 47 :: b = (a ++ [47]) ++ b by simp, List.drop_left]
theorem split_free {l : List Nat} (h : 47 ∉ l) : splitL 47 l = [l] := by
  induction l with
  | nil => rfl
  | cons d l ih =>
    unfold splitL
    rw [if_neg (fun e => h (by simp [e])), ih fun q => h (List.mem_cons_of_mem _ q)]
theorem split_last {a b : List Nat} (h : 47 ∉ b) : (splitL 47 (a ++ 47 :: b)).getLast? = some b := by
  induction a with
  | nil =>
    show (if (47 : Nat) = 47 then [] :: splitL 47 b else _).getLast? = _
    rw [if_pos rfl, split_free h]; rfl
  | cons d a ih =>
    show (if d = 47 then [] :: splitL 47 (a ++ 47 :: b) else match splitL 47 (a ++ 47 :: b) with
      | [] => [[d]]
      | p :: r => (d :: p) :: r).getLast? = _
    have hne : ∀ q : List (List Nat), q.getLast? = some b → q ≠ [] := fun q hq e => by rw [e] at hq; cases hq
    split
    · rw [List.getLast?_cons, ih]; rfl
    · have h2 : 2 ≤ (splitL 47 (a ++ 47 :: b)).length := by
        clear ih hne
        induction a with
        | nil =>
          show 2 ≤ (if (47 : Nat) = 47 then [] :: splitL 47 b else _).length
          rw [if_pos rfl, split_free h]; exact Nat.le_refl _
        | cons d a ih =>
          show 2 ≤ (if d = 47 then [] :: splitL 47 (a ++ 47 :: b) else match splitL 47 (a ++ 47 :: b) with
            | [] => [[d]]
            | p :: r => (d :: p) :: r).length
          split
          · rw [List.length_cons]; lia
          · split
            · rename_i e; rw [e] at ih; simp at ih
            · rename_i e; rw [e] at ih; simpa using ih
      split
      · rename_i e; rw [e] at h2; simp at h2
      · rename_i p r e
        rw [e] at ih h2
        cases r with
        | nil => simp at h2
        | cons q r => rw [List.getLast?_cons_cons] at ih ⊢; exact ih
theorem last_base (x : List Nat) : (splitL 47 x).getLast? = some (baseL x) := by
  rcases cut_last 47 x with h | ⟨a, b, rfl, h⟩
  · rw [split_free h, base_free h]; rfl
  · rw [split_last h, base_app h]
/-- what stands ahead of the last name -/
noncomputable def frontL (x : List Nat) : List Nat := x.take (x.length - (baseL x).length)
theorem front_free {x : List Nat} (h : 47 ∉ x) : frontL x = [] := by unfold frontL; rw [base_free h]; simp
theorem front_app {a b : List Nat} (h : 47 ∉ b) : frontL (a ++ 47 :: b) = a ++ [47] := by
  unfold frontL
  rw [base_app h, show a ++ 47 :: b = (a ++ [47]) ++ b by simp]
  exact List.take_left' (by simp; lia)
theorem front_take (x : List Nat) : x.take (rfindL 47 x + 1).toNat = frontL x := by
  rcases cut_last 47 x with h | ⟨a, b, rfl, h⟩
  · rw [front_free h, rf_none h]; rfl
  · rw [front_app h, rf_last h, show a ++ 47 :: b = (a ++ [47]) ++ b by simp]
    exact List.take_left' (by simp)
theorem front_base (x : List Nat) : frontL x ++ baseL x = x := by
  rw [← front_take]; unfold baseL; exact List.take_append_drop _ _
theorem base_len (x : List Nat) : (baseL x).length ≤ x.length := by unfold baseL; rw [List.length_drop]; lia
theorem base_no (x : List Nat) : 47 ∉ baseL x := by
  rcases cut_last 47 x with h | ⟨a, b, rfl, h⟩
  · rw [base_free h]; exact h
  · rw [base_app h]; exact h
/-! dirname -/
theorem strip_nil (c : Nat) (l : List Nat) : rstripL c l = [] ↔ l = List.replicate l.length c := by
  unfold rstripL
  rw [List.reverse_eq_nil_iff, List.eq_replicate_iff]
  have key : ∀ q : List Nat, q.dropWhile (· == c) = [] ↔ ∀ d ∈ q, d = c := by
    intro q
    induction q with
    | nil => simp
    | cons d q ih =>
      by_cases e : d = c
      · rw [List.dropWhile_cons_of_pos (by simp [e]), ih]; simp [e]
      · rw [List.dropWhile_cons_of_neg (by simp [e])]; simp [e]
  rw [key]
  simp
noncomputable def dirT (x : List Nat) : List Nat := if rstripL 47 (frontL x) = [] then frontL x else rstripL 47 (frontL x)
theorem dir_eq (x : List Nat) : dirT x = dirL x := by
  unfold dirT dirL
  rw [front_take]
  by_cases h : rstripL 47 (frontL x) = []
  · rw [if_pos h, if_neg (fun q => q.2 ((strip_nil _ _).mp h))]
  · rw [if_neg h, if_pos ⟨fun e => h (by rw [e]; rfl), fun q => h ((strip_nil _ _).mpr q)⟩]
/-! splitext -/
noncomputable def sextT (x : List Nat) : List Nat :=
  if rfindL 46 (baseL x) > ((baseL x).length : Int) - ((lstripL 46 (baseL x)).length : Int) then frontL x ++ (baseL x).take (rfindL 46 (baseL x)).toNat else x
theorem strip_drop (c : Nat) : ∀ l : List Nat, ∃ k, lstripL c l = l.drop k ∧ k ≤ l.length ∧ (∀ i, i < k → l[i]? = some c) ∧ l[k]? ≠ some c
  | [] => ⟨0, rfl, Nat.le_refl _, fun i h => absurd h (Nat.not_lt_zero _), by simp⟩
  | d :: l => by
    by_cases e : d = c
    · obtain ⟨k, h1, h2, h3, h4⟩ := strip_drop c l
      refine ⟨k + 1, ?_, by simpa using h2, ?_, by simpa using h4⟩
      · subst e
        unfold lstripL at h1 ⊢
        rw [List.dropWhile_cons_of_pos (by simp)]
        exact h1
      · intro i hi
        cases i with
        | zero => simp [e]
        | succ i => simpa using h3 i (by lia)
    · refine ⟨0, ?_, Nat.zero_le _, fun i h => absurd h (Nat.not_lt_zero _), by simpa using e⟩
      unfold lstripL
      rw [List.dropWhile_cons_of_neg (by simpa using e)]; rfl
theorem rf_app_hit {c : Nat} {f b : List Nat} (h : c ∈ b) : rfindL c (f ++ b) = (f.length : Int) + rfindL c b := by
  rcases cut_last c b with q | ⟨p, r, rfl, q⟩
  · exact absurd h q
  · rw [rf_last q, ← List.append_assoc, rf_last q]
    simp
theorem rf_app_miss {c : Nat} {f b : List Nat} (h : c ∉ b) : rfindL c (f ++ b) = rfindL c f := by
  rcases cut_last c f with q | ⟨p, r, rfl, q⟩
  · rw [rf_none q, rf_none]
    intro m
    rcases List.mem_append.mp m with m | m
    · exact q m
    · exact h m
  · rw [List.append_assoc, List.cons_append, rf_last q, rf_last]
    intro m
    rcases List.mem_append.mp m with m | m
    · exact q m
    · exact h m
theorem rf_lt (c : Nat) (l : List Nat) : rfindL c l < l.length := by
  rcases rfindL_spec c l with ⟨h, _⟩ | ⟨i, h, hi, _⟩
  · rw [h]; lia
  · have : i < l.length := by
      rcases Nat.lt_or_ge i l.length with q | q
      · exact q
      · rw [List.getElem?_eq_none q] at hi; cases hi
    lia
theorem front_len (x : List Nat) : (rfindL 47 x + 1).toNat = (frontL x).length := by
  rcases cut_last 47 x with h | ⟨a, b, rfl, h⟩
  · rw [front_free h, rf_none h]; rfl
  · rw [front_app h, rf_last h]; simp
theorem take_fb (x : List Nat) (n : Nat) : x.take ((frontL x).length + n) = frontL x ++ (baseL x).take n := by
  have : x.take ((frontL x).length + n) = (frontL x ++ baseL x).take ((frontL x).length + n) := by rw [front_base]
  rw [this, List.take_append, List.take_of_length_le (by lia), Nat.add_sub_cancel_left]
theorem sext_eq (x : List Nat) : ∃ r, sextL x = [sextT x, r] := by
  have hx := front_base x
  obtain ⟨k, k1, k2, k3, k4⟩ := strip_drop 46 (baseL x)
  have hl : (lstripL 46 (baseL x)).length = (baseL x).length - k := by rw [k1, List.length_drop]
  by_cases hm : 46 ∈ baseL x
  · have hr : rfindL 46 x = ((frontL x).length : Int) + rfindL 46 (baseL x) := by
      conv => lhs; rw [← hx]
      exact rf_app_hit hm
    obtain ⟨p, r, e, hr'⟩ : ∃ p r, baseL x = p ++ 46 :: r ∧ 46 ∉ r := by
      rcases cut_last 46 (baseL x) with q | q
      · exact absurd hm q
      · exact q
    have hd : rfindL 46 (baseL x) = (p.length : Int) := by rw [e]; exact rf_last hr'
    have hs : segL x = p := by
      unfold segL
      rw [front_len, hr, hd, show (((frontL x).length : Int) + (p.length : Int)).toNat = (frontL x).length + p.length by lia]
      rw [take_fb, List.drop_left, e]
      exact List.take_left
    have ht : x.take (rfindL 46 x).toNat = frontL x ++ (baseL x).take (rfindL 46 (baseL x)).toNat := by
      rw [hr, hd, show (((frontL x).length : Int) + (p.length : Int)).toNat = (frontL x).length + p.length by lia]
      rw [take_fb]
      simp
    have hc : (segL x).any (fun c => decide (c ≠ 46)) = true ↔ rfindL 46 (baseL x) > ((baseL x).length : Int) - ((lstripL 46 (baseL x)).length : Int) := by
      rw [hs, hd, hl, show ((baseL x).length : Int) - (((baseL x).length - k : Nat) : Int) = (k : Int) by lia]
      have hpi : ∀ i, i < p.length → (baseL x)[i]? = p[i]? := fun i hi => by rw [e, List.getElem?_append_left hi]
      constructor
      · intro h
        rw [List.any_eq_true] at h
        obtain ⟨c, hc, hn⟩ := h
        obtain ⟨i, hi, rfl⟩ := List.getElem_of_mem hc
        have h1 := hpi i hi
        rw [List.getElem?_eq_getElem hi] at h1
        rcases Nat.lt_or_ge i k with q | q
        · rw [k3 i q] at h1
          have := Option.some.inj h1
          rw [← this] at hn
          simp at hn
        · lia
      · intro h
        have hk : k < p.length := by lia
        rw [List.any_eq_true]
        refine ⟨p[k], List.getElem_mem hk, ?_⟩
        rw [decide_eq_true_eq]
        intro q
        apply k4
        rw [hpi k hk, List.getElem?_eq_getElem hk, q]
    unfold sextL sextT
    by_cases h : (segL x).any (fun c => decide (c ≠ 46)) = true
    · rw [if_pos h, if_pos (hc.mp h), ht]; exact ⟨_, rfl⟩
    · rw [if_neg h, if_neg (fun q => h (hc.mpr q))]; exact ⟨_, rfl⟩
  · have hr : rfindL 46 (baseL x) = -1 := rf_none hm
    have hs : segL x = [] := by
      unfold segL
      rw [front_len]
      have : rfindL 46 x = rfindL 46 (frontL x) := by
        conv => lhs; rw [← hx]
        exact rf_app_miss hm
      have h2 := rf_lt 46 (frontL x)
      rw [this]
      exact List.drop_eq_nil_of_le (by rw [List.length_take]; lia)
    unfold sextL sextT
    rw [hs, hr, hl]
    rw [if_neg (by simp), if_neg (by lia)]
    exact ⟨_, rfl⟩
/-! join -/
theorem join_front (x : List Nat) : (if x.take 1 = [47] then x else [98, 38, 47] ++ x) = join2L [98, 38] x := by
  unfold join2L
  have h : (x.take 1 = [47]) ↔ (x.head? = some 47 ∨ ([98, 38] : List Nat) = []) := by
    cases x <;> simp
  by_cases q : x.take 1 = [47]
  · rw [if_pos q, if_pos (h.mp q)]
  · rw [if_neg q, if_neg (fun r => q (h.mpr r)), if_neg (by simp)]; rfl
theorem base_last (x : List Nat) : baseL x = [] ↔ (x = [] ∨ x.getLast? = some 47) := by
  rcases cut_last 47 x with h | ⟨a, b, rfl, h⟩
  · rw [base_free h]
    constructor
    · intro e; exact .inl e
    · rintro (e | e)
      · exact e
      · exact absurd (List.mem_of_getLast? e) h
  · rw [base_app h]
    constructor
    · rintro rfl; right; simp
    · rintro (e | e)
      · simp at e
      · rcases List.eq_nil_or_concat b with rfl | ⟨q, z, rfl⟩
        · rfl
        · rw [List.concat_eq_append] at e h
          rw [show a ++ 47 :: (q ++ [z]) = (a ++ 47 :: q) ++ [z] by simp, List.getLast?_concat] at e
          have := Option.some.inj e
          subst this
          exact absurd (by simp) h
theorem join_back (x : List Nat) : x ++ (if baseL x ≠ [] then [47] else []) ++ [233, 60] = join2L x [233, 60] := by
  unfold join2L
  by_cases h : x = []
  · subst h; rfl
  · rw [show (if (([233, 60] : List Nat).head? = some 47 ∨ x = []) then ([233, 60] : List Nat) else if x.getLast? = some 47 then x ++ [233, 60] else x ++ ([47] ++ [233, 60])) = (if x.getLast? = some 47 then x ++ [233, 60] else x ++ ([47] ++ [233, 60])) from if_neg (by simp [h])]
    by_cases q : x.getLast? = some 47
    · have hb : baseL x = [] := (base_last x).mpr (.inr q)
      rw [if_pos q, hb]; simp
    · have hb : baseL x ≠ [] := fun r => by
        rcases (base_last x).mp r with s | s
        · exact h s
        · exact q s
      rw [if_neg q, if_pos hb]
      simp
end Mine
end -- IlP3
section -- IlP4
theorem Mine.none_IlP4 : True := by
  k_with_none
  trivial
open PySem PySem.W PyProof.Rows PySem.Calls PySem.Spec PySem.Builtin PySem.Builtin.Str
namespace Mine
noncomputable def handL (k : Int) (x : List Nat) : List Nat :=
  if k = 0 then escL tblCdata x else if k = 1 then fnL x else if k = 2 then normL x else if k = 3 then escL tblAttrib x else if k = 4 then join2L [98, 38] x else if k = 5 then escL tblHtml x
  else if k = 6 then dirL x else if k = 7 then escL tblCdataC x else if k = 8 then join2L x [233, 60] else if k = 9 then escL tblAttribC x else if k = 10 then sextT x else baseL x
/-! no hyphen comes in -/
noncomputable def tblFree (t : List (Nat × List Nat)) : Bool := t.all fun p => !p.2.contains 45
noncomputable def tblShort (t : List (Nat × List Nat)) : Bool := t.all fun p => decide (p.2.length ≤ 6)
theorem lookup_mem {t : List (Nat × List Nat)} {d : Nat} {r : List Nat} (h : t.lookup d = some r) : ∃ c, (c, r) ∈ t := by
  induction t with
  | nil => cases h
  | cons p t ih =>
    obtain ⟨a, b⟩ := p
    rw [List.lookup_cons] at h
    split at h
    · cases h; exact ⟨a, .head _⟩
    · obtain ⟨c, hc⟩ := ih h; exact ⟨c, .tail _ hc⟩
theorem esc_free {t : List (Nat × List Nat)} (ht : tblFree t = true) {x : List Nat} (h : 45 ∉ x) : 45 ∉ escL t x := by
  intro q
  unfold escL at q
  rw [List.mem_flatMap] at q
  obtain ⟨d, hd, q⟩ := q
  cases e : t.lookup d with
  | none =>
    rw [e] at q
    have : 45 = d := by simpa using q
    exact h (this ▸ hd)
  | some r =>
    rw [e] at q
    obtain ⟨c, hc⟩ := lookup_mem e
    have := List.all_eq_true.mp ht _ hc
    simp at this
    exact this q
theorem esc_le {t : List (Nat × List Nat)} (ht : tblShort t = true) (x : List Nat) : (escL t x).length ≤ 6 * x.length := by
  induction x with
  | nil => exact Nat.le_refl _
  | cons d x ih =>
    have e1 : escL t (d :: x) = (t.lookup d).getD [d] ++ escL t x := rfl
    have : ((t.lookup d).getD [d]).length ≤ 6 := by
      cases e : t.lookup d with
      | none => show 1 ≤ 6; lia
      | some r =>
        obtain ⟨c, hc⟩ := lookup_mem e
        exact of_decide_eq_true (List.all_eq_true.mp ht _ hc)
    rw [e1, List.length_append, List.length_cons]; lia
theorem rep_free {r x : List Nat} {c : Nat} (hr : 45 ∉ r) (h : 45 ∉ x) : 45 ∉ repL c r x := by
  unfold repL
  rw [List.mem_flatMap]
  rintro ⟨d, hd, q⟩
  split at q
  · exact hr q
  · have : 45 = d := by simpa using q
    exact h (this ▸ hd)
theorem bar_free {x : List Nat} (h : 45 ∉ x) : 45 ∉ barL x := by
  unfold barL
  rw [List.mem_flatMap]
  rintro ⟨d, hd, q⟩
  have : 45 = d := by
    split at q <;> simpa using q
  exact h (this ▸ hd)
theorem setB_free {s : List Nat} (h : 45 ∉ s) : 45 ∉ setB s := by
  unfold setB
  have hd : 45 ∉ s.drop 1 := fun q => h (List.mem_of_mem_drop q)
  (repeat' split) <;> simp_all
theorem step_free {x : List Nat} (h : 45 ∉ x) (i : Nat) {a : List Nat} (e : (stepL x i).1 = some a) : 45 ∉ a := by
  unfold stepL at e
  split at e
  · cases e
  · cases e; simp
  · split at e
    · cases e; simp
    · cases e
      refine setB_free (bar_free (rep_free (by simp) ?_))
      exact fun q => h (List.mem_of_mem_take (List.mem_of_mem_drop q))
  · rename_i c _ _ _ hc
    cases e
    have : 45 ≠ c := fun q => h (q ▸ List.mem_of_getElem? hc)
    unfold escS
    split <;> simp [this]
  · cases e
theorem steps_free {x : List Nat} (h : 45 ∉ x) : ∀ f i a, some a ∈ stepsGo x f i → 45 ∉ a
  | 0, _, _, q => by cases q
  | f + 1, i, a, q => by
    unfold stepsGo at q
    split at q
    · rcases List.mem_cons.mp q with q | q
      · exact step_free h i q.symm
      · exact steps_free h f _ a q
    · cases q
theorem eG_free : ∀ (ss : List (Option (List Nat))) (run : List Nat), (∀ a, some a ∈ ss → 45 ∉ a) → 45 ∉ run → 45 ∉ eG run ss
  | [], run, _, h => by unfold eG; simpa using h
  | some a :: ss, run, hs, h => by
    show 45 ∉ eG (run ++ a) ss
    exact eG_free ss _ (fun b q => hs b (.tail _ q)) (by simp [h, hs a (.head _)])
  | none :: ss, run, hs, h => by
    show 45 ∉ (if run = [] then [] else runB run) ++ eG [] ss
    have := eG_free ss [] (fun b q => hs b (.tail _ q)) (by simp)
    split
    · simpa using this
    · unfold runB; simp [this, h]
theorem eL_free : ∀ (ss : List (Option (List Nat))), (∀ a, some a ∈ ss → 45 ∉ a) → 45 ∉ eL ss
  | [], _ => by simp [eL]
  | some a :: ss, hs => by
    show 45 ∉ a ++ eL ss
    have := eL_free ss (fun b q => hs b (.tail _ q))
    simp [this, hs a (.head _)]
  | none :: ss, hs => eG_free ss [] (fun b q => hs b (.tail _ q)) (by simp)
theorem fnL_steps (x : List Nat) : fnL x = [40, 63, 115, 58] ++ eL (stepsGo x x.length 0) ++ [41, 92, 90] := by
  unfold fnL transL
  rw [trans_steps, add_col]
  have : decide (([] : List (Option (List Nat))).getLast? = some none) = false := rfl
  rw [this, List.nil_append, List.nil_append, lead_col _ (fun a h => steps_ne x _ _ a h)]
theorem fn_free {x : List Nat} (h : 45 ∉ x) : 45 ∉ fnL x := by
  rw [fnL_steps]
  have := eL_free (stepsGo x x.length 0) (fun a q => steps_free h _ _ a q)
  simp [this]
theorem splitL_free' {c : Nat} {x : List Nat} (h : 45 ∉ x) : ∀ p ∈ splitL c x, 45 ∉ p := by
  induction x with
  | nil => intro p hp; have : p = [] := by simpa [splitL] using hp
           subst this; simp
  | cons d x ih =>
    have ih := ih fun q => h (List.mem_cons_of_mem _ q)
    have hd : 45 ≠ d := fun q => h (by simp [q])
    intro p hp
    unfold splitL at hp
    split at hp
    · rcases List.mem_cons.mp hp with rfl | hp
      · simp
      · exact ih p hp
    · revert hp ih
      cases splitL c x with
      | nil => intro ih hp; have : p = [d] := by simpa using hp
               subst this; simp [hd]
      | cons q r =>
        intro ih hp
        rcases List.mem_cons.mp hp with rfl | hp
        · have := ih q (.head _)
          simp [hd, this]
        · exact ih p (.tail _ hp)
theorem join_free {sep : List Nat} (hs : 45 ∉ sep) : ∀ l : List (List Nat), (∀ p ∈ l, 45 ∉ p) → 45 ∉ joinL sep l
  | [], _ => by simp [joinL]
  | [x], h => h x (.head _)
  | x :: y :: r, h => by
    have := join_free hs (y :: r) fun p hp => h p (.tail _ hp)
    have := h x (.head _)
    show 45 ∉ x ++ sep ++ joinL sep (y :: r)
    simp [*]
theorem norm_free' (ab : Bool) (cs : List (List Nat)) (h : ∀ p ∈ cs, 45 ∉ p) : ∀ acc : List (List Nat), (∀ p ∈ acc, 45 ∉ p) → ∀ p ∈ cs.foldl (normStep ab) acc, 45 ∉ p := by
  induction cs with
  | nil => intro acc ha; exact ha
  | cons c cs ih =>
    intro acc ha
    refine ih (fun p hp => h p (.tail _ hp)) _ ?_
    unfold normStep
    split
    · exact ha
    · split
      · intro p hp
        rcases List.mem_append.mp hp with hp | hp
        · exact ha p hp
        · rw [List.mem_singleton.mp hp]; exact h c (.head _)
      · intro p hp; exact ha p (List.dropLast_subset _ hp)
theorem norm_free {x : List Nat} (h : 45 ∉ x) : 45 ∉ normL x := by
  unfold normL
  split
  · simp
  · split
    · simp
    · unfold normAll
      have h1 : 45 ∉ rootB x := by
        unfold rootB
        (repeat' split) <;> first | simp | exact fun q => h (List.mem_of_mem_take q)
      have h2 : 45 ∉ rootC x := by
        unfold rootC
        (repeat' split) <;> first | exact h | exact fun q => h (List.mem_of_mem_drop q)
      have h3 := join_free (sep := [47]) (by simp) _ (norm_free' (decide (rootB x ≠ [])) _ (splitL_free' (c := 47) h2) [] (by simp))
      intro q
      rcases List.mem_append.mp q with q | q
      · exact h1 q
      · exact h3 q
theorem norm_len (x : List Nat) : (normL x).length ≤ x.length + 3 := by
  unfold normL
  split
  · simp
  · split
    · simp
    · unfold normAll
      have h1 : (rootB x).length + (rootC x).length ≤ x.length + 1 ∧ (rootB x).length ≤ 2 := by
        unfold rootB rootC
        (repeat' split) <;> simp <;> lia
      have h2 := total_fold (decide (rootB x ≠ [])) (splitL 47 (rootC x)) []
      rw [total_split] at h2
      have h3 := join_len [47] (Nat.le_refl _) ((splitL 47 (rootC x)).foldl (normStep (decide (rootB x ≠ []))) [])
      have h4 : total [] = 0 := rfl
      rw [List.length_append]
      lia
theorem rstrip_sub (c : Nat) (l : List Nat) : ∀ d ∈ rstripL c l, d ∈ l := by
  intro d hd
  unfold rstripL at hd
  rw [List.mem_reverse] at hd
  exact List.mem_reverse.mp ((List.dropWhile_sublist _).subset hd)
theorem rstrip_len (c : Nat) (l : List Nat) : (rstripL c l).length ≤ l.length := by
  unfold rstripL
  rw [List.length_reverse]
  have := (List.dropWhile_sublist (· == c) (l := l.reverse)).length_le
  simpa using this
theorem front_le (x : List Nat) : (frontL x).length ≤ x.length := by unfold frontL; rw [List.length_take]; lia
theorem front_sub (x : List Nat) : ∀ d ∈ frontL x, d ∈ x := fun d h => List.mem_of_mem_take h
theorem base_sub (x : List Nat) : ∀ d ∈ baseL x, d ∈ x := fun d h => List.mem_of_mem_drop h
theorem dir_sub (x : List Nat) : (dirL x).length ≤ x.length ∧ ∀ d ∈ dirL x, d ∈ x := by
  rw [← dir_eq]
  unfold dirT
  split
  · exact ⟨front_le x, front_sub x⟩
  · exact ⟨Nat.le_trans (rstrip_len _ _) (front_le x), fun d h => front_sub x d (rstrip_sub _ _ d h)⟩
theorem sext_sub (x : List Nat) : (sextT x).length ≤ x.length ∧ ∀ d ∈ sextT x, d ∈ x := by
  unfold sextT
  split
  · refine ⟨?_, ?_⟩
    · have := congrArg List.length (front_base x)
      rw [List.length_append] at this
      rw [List.length_append, List.length_take]
      lia
    · intro d h
      rcases List.mem_append.mp h with h | h
      · exact front_sub x d h
      · exact base_sub x d (List.mem_of_mem_take h)
  · exact ⟨Nat.le_refl _, fun d h => h⟩
theorem join2_sub (a b : List Nat) : (join2L a b).length ≤ a.length + b.length + 1 ∧ (45 ∉ a → 45 ∉ b → 45 ∉ join2L a b) := by
  unfold join2L
  split
  · exact ⟨by lia, fun _ h => h⟩
  · split
    · exact ⟨by rw [List.length_append]; lia, fun h1 h2 => by simp [h1, h2]⟩
    · exact ⟨by simp only [List.length_append, List.length_cons, List.length_nil]; lia, fun h1 h2 => by simp [h1, h2]⟩
theorem hand_free (k : Int) {x : List Nat} (h : 45 ∉ x) : 45 ∉ handL k x := by
  unfold handL
  (repeat' split)
  · exact esc_free (by decide) h
  · exact fn_free h
  · exact norm_free h
  · exact esc_free (by decide) h
  · exact (join2_sub _ _).2 (by decide) h
  · exact esc_free (by decide) h
  · exact fun q => h ((dir_sub x).2 _ q)
  · exact esc_free (by decide) h
  · exact (join2_sub _ _).2 h (by decide)
  · exact esc_free (by decide) h
  · exact fun q => h ((sext_sub x).2 _ q)
  · exact fun q => h (base_sub x _ q)
theorem hand_len (k : Int) (x : List Nat) : (handL k x).length ≤ 8 * x.length + 7 := by
  unfold handL
  (repeat' split)
  · have := esc_le (t := tblCdata) (by decide) x; lia
  · exact fnL_len x
  · have := norm_len x; lia
  · have := esc_le (t := tblAttrib) (by decide) x; lia
  · have := (join2_sub [98, 38] x).1
    have e : ([98, 38] : List Nat).length = 2 := rfl
    lia
  · have := esc_le (t := tblHtml) (by decide) x; lia
  · have := (dir_sub x).1; lia
  · have := esc_le (t := tblCdataC) (by decide) x; lia
  · have := (join2_sub x [233, 60]).1
    have e : ([233, 60] : List Nat).length = 2 := rfl
    lia
  · have := esc_le (t := tblAttribC) (by decide) x; lia
  · have := (sext_sub x).1; lia
  · have := base_len x; lia
/-- every hand of the row may be taken -/
noncomputable def Good : List Int → List Nat → Prop
  | [], _ => True
  | k :: ks, x => 0 ≤ k ∧ k ≤ 11 ∧ x.length ≤ 100000 ∧ 45 ∉ x ∧ Good ks (handL k x)
theorem good_end {x : List Nat} (h : 45 ∉ x) (hx : x.length ≤ 15871) : Good [2, 3, 1] x := by
  have e2 : handL 2 x = normL x := rfl
  have e3 : handL 3 (normL x) = escL tblAttrib (normL x) := rfl
  have h2 := norm_len x
  have h3 := esc_le (t := tblAttrib) (by decide) (normL x)
  refine ⟨by lia, by lia, by lia, h, ?_⟩
  rw [e2]
  refine ⟨by lia, by lia, by lia, norm_free h, ?_⟩
  rw [e3]
  exact ⟨by lia, by lia, by lia, esc_free (by decide) (norm_free h), True.intro⟩
theorem good_app (f : Nat → Nat) (hf : ∀ n, f n = 8 * n + 7) : ∀ (ks : List Int) (x : List Nat), (∀ k ∈ ks, 0 ≤ k ∧ k ≤ 11) → 45 ∉ x → (Nat.repeat f ks.length x.length) ≤ 15871 → Good (ks ++ [2, 3, 1]) x
  | [], x, _, h, hx => good_end h hx
  | k :: ks, x, hk, h, hx => by
    have mono : ∀ n a b, a ≤ b → Nat.repeat f n a ≤ Nat.repeat f n b := by
      intro n
      induction n with
      | zero => intro a b q; exact q
      | succ n ih => intro a b q; show f _ ≤ f _; rw [hf, hf]; have := ih a b q; lia
    have up : ∀ n a, a ≤ Nat.repeat f n a := by
      intro n
      induction n with
      | zero => intro a; exact Nat.le_refl _
      | succ n ih => intro a; show a ≤ f _; rw [hf]; have := ih a; lia
    have comm : ∀ n a, Nat.repeat f (n + 1) a = Nat.repeat f n (f a) := by
      intro n
      induction n with
      | zero => intro a; rfl
      | succ n ih => intro a; show f (Nat.repeat f (n + 1) a) = f (Nat.repeat f n (f a)); rw [ih]
    have hl := hand_len k x
    have hu := up (k :: ks).length x.length
    refine ⟨(hk k (.head _)).1, (hk k (.head _)).2, by lia, h, ?_⟩
    refine good_app f hf ks (handL k x) (fun j hj => hk j (.tail _ hj)) (hand_free k h) ?_
    rw [List.length_cons, comm] at hx
    exact Nat.le_trans (mono _ _ _ (by rw [hf]; exact hl)) hx
theorem good_law {ks : List Int} {x : List Nat} (hk : ∀ k ∈ ks, 0 ≤ k ∧ k ≤ 11) (hl : ks.length ≤ 3) (h : 45 ∉ x) (hx : x.length ≤ 30) : Good (ks ++ [2, 3, 1]) x := by
  refine good_app (fun n => 8 * n + 7) (fun _ => rfl) ks x hk h ?_
  rcases ks with _ | ⟨a, _ | ⟨b, _ | ⟨c, _ | ⟨d, r⟩⟩⟩⟩
  · show x.length ≤ _; lia
  · show 8 * x.length + 7 ≤ _; lia
  · show 8 * (8 * x.length + 7) + 7 ≤ _; lia
  · show 8 * (8 * (8 * x.length + 7) + 7) + 7 ≤ _; lia
  · simp at hl
/-! the pieces -/
theorem pieces_ok : ∀ r, r < 19 → 45 ∉ pieceT.getD r [] ∧ (pieceT.getD r []).length ≤ 3 := by decide
theorem piece_ok (n : Nat) : 45 ∉ pieceL n ∧ (pieceL n).length ≤ 3 := by
  unfold pieceL
  split
  · rename_i h; exact pieces_ok _ h
  · refine ⟨fun q => ?_, by simp⟩
    have := List.mem_singleton.mp q
    lia
theorem pieces_flat (ns : List Nat) : 45 ∉ ns.flatMap pieceL ∧ (ns.flatMap pieceL).length ≤ 3 * ns.length := by
  induction ns with
  | nil => exact ⟨by simp, Nat.le_refl _⟩
  | cons n ns ih =>
    rw [List.flatMap_cons]
    have := piece_ok n
    refine ⟨by simp [this.1, ih.1], by rw [List.length_append, List.length_cons]; lia⟩
/-! the tables -/
theorem look_D (d : Nat) : tblAttribD.lookup d = tblAttribC.lookup d := by
  unfold tblAttribD tblAttribC
  simp only [List.lookup_cons]
  by_cases h1 : d = 13
  · subst h1; rfl
  · by_cases h2 : d = 9
    · subst h2; rfl
    · have e1 : (d == 13) = false := beq_false_of_ne h1
      have e2 : (d == 9) = false := beq_false_of_ne h2
      rw [e1, e2]
theorem escD (x : List Nat) : escL tblAttribD x = escL tblAttribC x := by
  unfold escL
  simp only [look_D]
end Mine
end -- IlP4
section -- IlN1
open PySem PySem.W PyProof.Rows PySem.Calls PySem.Spec
namespace Mine
theorem lines_IlN1L_1 : True := by
  k_with_none
  k_with "mine sub" => (first | exact fun _ h => h | exact fun _ h => .tail _ h | exact fun _ h => .tail _ (.tail _ h) | exact fun _ h => .tail _ (.tail _ (.tail _ h)) | exact fun _ h => .tail _ (.tail _ (.tail _ (.tail _ h))) | exact fun _ h => .tail _ (.tail _ (.tail _ (.tail _ (.tail _ h)))))
  k_with "mine eq" => (first | rfl | (subst_vars; rfl))
  k_with "mine end" => ((refine' ret_of (by assumption) _ ?q9e1 ?q9e2 ?q9e3 ?q9e4; (case q9e2 => k_asm); (case q9e3 => k_asm); (case q9e4 => walk_at "mine sub"); (case q9e1 => walk_at "mine eq"); (all_goals exact (0 : Nat))))
  k_with "mine endS" => ((refine' ret_of (by assumption) _ (veq ?_) ?q9e2 ?q9e3 ?q9e4; (case q9e2 => k_asm); (case q9e3 => k_asm); (case q9e4 => walk_at "mine sub")))
  k_with "mine lt" => (first | assumption | exact ktn_ltOf (by assumption))
  k_with "mine endT3" => ((refine' ret_ofT (by assumption) ?q9F ?q9N ?q9l ?q9s [(_, _), (_, _), (_, _)] ?q9o ?_; (case q9F => k_asm); (case q9N => k_asm); (case q9l => walk_at "mine lt"); (case q9s => walk_at "mine sub"); (case q9o => ((try simp only [w_nil, w_slash]); rfl))))
  k_with "mine endTT" => ((refine' ret_ofT (by assumption) ?q9F ?q9N ?q9l ?q9s _ ?q9o ?q9e; (case q9F => k_asm); (case q9N => k_asm); (case q9l => walk_at "mine lt"); (case q9s => walk_at "mine sub"); (case q9o => exact rfl); (case q9e => assumption)))
  k_with "mine endT2" => ((refine' ret_ofT (by assumption) ?q9F ?q9N ?q9l ?q9s [(_, _), (_, _)] ?q9o ?_; (case q9F => k_asm); (case q9N => k_asm); (case q9l => walk_at "mine lt"); (case q9s => walk_at "mine sub"); (case q9o => ((try simp only [w_nil, w_slash]); rfl))))
  k_with "mine enterT" => ((unfold CtT; intro dp un gd cn cs a ccd cl outer A₀ base h₀ L m news s Q E B F X N T hk hd hu hret; refine wpAny_call ?_; k_dflt cell_enter))
  k_with "mine enterR" => ((unfold Ct; intro dp un gd cn cs a ccd cl outer A₀ base h₀ L m news s Q E B F X N T hk hd hu hret; refine wpAny_call ?_; k_dflt (refine' kp_rest ?q9k1 ?q9k2 ?q9k3 ?q9k4 ?q9k5 ?q9kA ?q9kF ?q9kK ?q9k6 ?q9k7 ?q9k8 ?q9kV ?q9kP ?q9kG ?q9kB ?_ ?q9c2 ?q9c3 ?q9c4 ?q9c5; (case q9kA => exact rfl); (case q9kF => exact rfl); (case q9kK => assumption); (case q9k1 => k_asm); (case q9k2 => k_asm); (case q9k3 => k_asm); (case q9k4 => k_asm); (case q9k5 => k_asm); (case q9k6 => k_is); (case q9k7 => k_is); (case q9k8 => ktr_room); (case q9kV => kl_lit); (case q9kP => exact rfl); (case q9kG => exact fun _ => rfl); (case q9kB => exact fun _ => locs rfl); (case q9c5 => decide); (case q9c2 => exact rfl); (case q9c3 => exact rfl); (case q9c4 => exact rfl); k_whole); intro D' g' L' h' l1 FG' F' N' B' X' T'; (try k_lt l1); (try dsimp only); (try k_lift B'); (try k_fold)))
  k_with "mine enter" => ((unfold Ct; intro dp un gd cn cs a ccd cl outer A₀ base h₀ L m news s Q E B F X N T hk hd hu hret; refine wpAny_call ?_; k_dflt cell_enter))
  k_with "mine use" => (((case q9k1 => k_asm); (case q9k2 => k_asm); (case q9k3 => k_asm); (case q9k4 => k_asm); (case q9k5 => k_asm); (case q9kK => first | exact rfl | assumption); (case q9kd => ktr_room); (case q9ku => ktr_units); intro t9 h9 tk9 F9 N9; (try dsimp only); (try k_fold); (try k_sweep)))
  k_with "mine useT" => (((case q9k1 => k_asm); (case q9k2 => k_asm); (case q9k3 => k_asm); (case q9k4 => k_asm); (case q9k5 => k_asm); (case q9kK => first | exact rfl | assumption); (case q9kd => ktr_room); (case q9ku => ktr_units); intro D9 ps9 h9 tk9 e9 F9 N9 l9; (try k_lt l9); (try dsimp only); (try k_fold); (try k_sweep)))
  k_with "mine word" => (first | with_reducible exact w_slash | with_reducible exact w_dot | with_reducible exact w_dotdot | with_reducible exact w_nil | with_reducible rfl)
  k_with "mine len" => (first | assumption | lia | (simp only [List.length_take, List.length_drop, List.length_append, List.length_replicate, List.length_cons, List.length_nil]; lia))
  k_with "call builtin:issubclass" => ((k_here; k_dflt (refine' k_issub ?q9k1 ?q9k2 ?_; (case q9k1 => k_asm); (case q9k2 => k_mem); k_whole)))
  k_with "call builtin:str.rfind" => ((k_here; k_dflt (refine' t_rfind ?q9y ?_; (case q9y => walk_at "mine word"); k_whole); intro r' hr' h1' h2'))
  k_with "subscriptTail Name Slice str ref" => ((k_here; (with_reducible show wpAny _ _ (subscriptTail _ (Expr.Slice (some _) none none _) (Value.str (mkS _) _) _) _ _ _); k_dflt (refine' t_slice_from (s := ⟨_, _, _, _, _⟩) ?q9F ?q9N ?q9x ?q9i ?_ ?q9hs ?q9ht; (case q9F => k_asm); (case q9N => k_asm); (case q9x => walk_at "mine len"); (case q9i => walk_at "mine len"); (case q9hs => with_unfolding_all rfl); (case q9ht => intro _; with_unfolding_all rfl); k_whole); intro h' t' k' F' N'; (try k_sweep)))
  k_with "subscriptTail Name Slice str ref" => ((k_here; (with_reducible show wpAny _ _ (subscriptTail _ (Expr.Slice none (some _) none _) (Value.str (mkS _) _) _) _ _ _); k_dflt (refine' t_slice_to (s := ⟨_, _, _, _, _⟩) ?q9F ?q9N ?q9x ?q9i ?_ ?q9hs ?q9ht; (case q9F => k_asm); (case q9N => k_asm); (case q9x => walk_at "mine len"); (case q9i => walk_at "mine len"); (case q9hs => with_unfolding_all rfl); (case q9ht => intro _; with_unfolding_all rfl); k_whole); intro h' t' k' F' N'; (try k_sweep)))
  k_with "subscriptTail Name Slice str ref" => ((k_here; (with_reducible show wpAny _ _ (subscriptTail _ (Expr.Slice (some _) (some _) none _) (Value.str (mkS _) _) _) _ _ _); k_dflt (refine' t_slice_mid (s := ⟨_, _, _, _, _⟩) ?q9F ?q9N ?q9x ?q9i ?q9j ?_ ?q9hs ?q9ht; (case q9F => k_asm); (case q9N => k_asm); (case q9x => walk_at "mine len"); (case q9i => walk_at "mine len"); (case q9j => walk_at "mine len"); (case q9hs => with_unfolding_all rfl); (case q9ht => intro _; with_unfolding_all rfl); k_whole); intro h' t' k' F' N'; (try k_sweep)))
  k_with "truthy str" => ((k_here; (with_reducible show wpAny _ _ (PySem.truthy (Value.str (mkS _) _)) _ _ _); k_dflt (refine' t_truthy ?q9x ?_; (case q9x => walk_at "mine len"); k_whole); intro k'))
  k_with "call builtin:len" => ((k_here; (with_reducible show wpAny _ _ (call (Value.builtin "len") [Value.str (mkS _) _]) _ _ _); k_dflt (refine' t_len ?q9x ?_; (case q9x => walk_at "mine len"); k_whole); intro k'))
  k_with "compareOp NotEq str str" => ((k_here; (with_reducible show wpAny _ _ (compareOp CmpOp.NotEq (Value.str (mkS _) _) _) _ _ _); k_dflt (refine' t_ne ?q9y ?_; (case q9y => walk_at "mine word"); k_whole)))
  k_with "compareOp Eq str str" => ((k_here; (with_reducible show wpAny _ _ (compareOp CmpOp.Eq (Value.str (mkS _) _) _) _ _ _); k_dflt (refine' t_eq ?q9y ?_; (case q9y => walk_at "mine word"); k_whole)))
  k_with "binaryOp Add str str" => ((k_here; k_dflt (refine' t_add ?q9x ?q9y ?q9l ?_; (case q9x => walk_at "mine word"); (case q9y => walk_at "mine word"); (case q9l => walk_at "mine len"); k_whole); intro t' k'))
  k_with "binaryOp Mult str int" => ((k_here; k_dflt (refine' t_mul ?q9y ?q9a ?q9b ?_; (case q9y => walk_at "mine word"); (case q9a => walk_at "mine len"); (case q9b => walk_at "mine len"); k_whole); intro t' k'))
  k_with "call builtin:str.rstrip" => ((k_here; k_dflt (refine' t_rstrip ?q9y ?q9x ?_; (case q9y => walk_at "mine word"); (case q9x => walk_at "mine len"); k_whole); intro t' k'))
  k_with "call builtin:str.lstrip" => ((k_here; k_dflt (refine' t_lstrip ?q9y ?q9x ?_; (case q9y => walk_at "mine word"); (case q9x => walk_at "mine len"); k_whole); intro t' k'))
  k_with "call builtin:str.startswith" => ((k_here; k_dflt (refine' t_starts ?q9y ?_; (case q9y => walk_at "mine word"); k_whole)))
  k_with "call builtin:str.endswith" => ((k_here; k_dflt (refine' t_ends ?q9y ?_; (case q9y => walk_at "mine word"); k_whole)))
  k_with "call builtin:str.split" => ((k_here; k_dflt (refine' t_split ?q9F ?q9N ?q9y ?q9x ?_; (case q9F => k_asm); (case q9N => k_asm); (case q9y => walk_at "mine word"); (case q9x => walk_at "mine len"); k_whole); intro ps' h' k' e' F' N'; (try k_sweep)))
  k_with "call builtin:str.join" => ((k_here; k_dflt (refine' t_join ?q9N ?q9m ?q9y ?q9l ?_; (case q9N => k_asm); (case q9m => k_mem); (case q9y => walk_at "mine word"); (case q9l => walk_at "mine len"); k_whole); intro t' k'))
  k_with "subscriptTail Name Name str int" => ((k_here; (with_reducible show wpAny _ _ (subscriptTail _ _ (Value.str (mkS _) _) _) _ _ _); k_dflt (refine' t_item ?q9x ?q9i ?q9j ?_ ?q9hs ?q9ht; (case q9x => walk_at "mine len"); (case q9i => walk_at "mine len"); (case q9j => walk_at "mine len"); (case q9hs => with_unfolding_all rfl); (case q9ht => intro _; with_unfolding_all rfl); k_whole); intro c' hc'))
  k_with "exec While Compare cons nil" => ((k_here; k_extra "mine while"))
  k_with "IntTurn ret" => (dsimp only [IntTurn])
  k_with "IntTurn next" => ((refine' int_turn_next ?q9F ?q9N ?q9m ?q9P; (case q9F => k_asm); (case q9N => k_asm); (case q9m => k_extra "mine measure"); (case q9P => k_extra "mine state")))
  k_with "exec If" => ((k_here; k_extra "mine if"))
  k_with "exec For Name Name cons nil" => ((k_here; k_extra "mine for"))
  k_with "pyIter ref" => ((k_here; k_extra "mine iter"))
  k_with "LoopStep3 next" => ((k_extra "mine step"))
  k_with "inplaceOp Add str str" => ((k_here; k_dflt (refine' t_iadd ?q9x ?q9y ?q9l ?_; (case q9x => walk_at "mine word"); (case q9y => walk_at "mine word"); (case q9l => walk_at "mine len"); k_whole); intro t' k'))
  k_with "TurnEnd next" => ((refine' acc_next ?q9F ?q9N ?q9m ?q9hlt ?_; (case q9F => k_asm); (case q9N => k_asm); (case q9m => k_mem); (case q9hlt => assumption)))
  k_with "TurnEnd cont" => ((refine' acc_cont ?q9F ?q9N ?q9m ?q9hlt ?_; (case q9F => k_asm); (case q9N => k_asm); (case q9m => k_mem); (case q9hlt => assumption)))
  k_with "truthy ref" => ((k_here; k_dflt (refine' t_truthyL ?q9N ?q9m ?q9z ?_; (case q9N => k_asm); (case q9m => k_mem); (case q9z => walk_at "mine len"); k_whole); intro k'))
  k_with "subscriptTail Name UnaryOp ref int" => ((k_here; k_dflt (refine' t_last ?q9N ?q9m ?q9e ?q9z ?_ ?q9s; (case q9N => k_asm); (case q9m => k_mem); (case q9e => first | assumption | (simp_all; done)); (case q9z => walk_at "mine len"); (case q9s => with_unfolding_all rfl); k_whole); intro q' p' e'))
  k_with "call builtin:list.append" => ((k_here; k_dflt (refine' t_append ?q9F ?q9N ?q9y ?q9U ?q9z ?_; (case q9F => k_asm); (case q9N => k_asm); (case q9y => walk_at "mine word"); (case q9U => k_upd); (case q9z => walk_at "mine len"); k_whole); intro h' F' N'; (try k_sweep)))
  k_with "call builtin:list.pop" => ((k_here; k_dflt (refine' t_pop ?q9F ?q9N ?q9e ?q9U ?q9z ?_; (case q9F => k_asm); (case q9N => k_asm); (case q9e => first | assumption | (simp_all; done)); (case q9U => k_upd); (case q9z => walk_at "mine len"); k_whole); intro h' v' F' N'; (try k_sweep)))
  k_with "truthy str" => ((k_here; (with_reducible show wpAny _ _ (PySem.truthy (Value.str (mkS [_]) _)) _ _ _); k_dflt (refine t_truthy1 ?_); intro k'))
  k_with "formatField str" => ((k_here; k_dflt (refine' t_field ?q9x ?_; (case q9x => walk_at "mine len"); k_whole); intro t' k'))
  k_with "exec If" => ((k_here; refine wpAny_If ?_))
  k_with "mine word" => (first | with_reducible exact w_slash | with_reducible exact w_dot | with_reducible exact w_dotdot | with_reducible exact w_nil | with_reducible exact w_star | with_reducible exact w_quest | with_reducible exact w_open | with_reducible exact w_bang | with_reducible exact w_shut | with_reducible exact w_hyph | with_reducible exact w_bsl | with_reducible exact w_bsl2 | with_reducible exact w_never | with_reducible exact w_hat | with_reducible exact w_bopen | with_reducible exact w_dots | with_reducible exact w_lazy | with_reducible exact w_par | with_reducible exact w_pre | with_reducible exact w_end | with_reducible rfl)
  k_with "getAttr ref true" => ((k_here; k_dflt (refine' w_bound ?q9F ?q9N ?q9m ?_; (case q9F => k_asm); (case q9N => k_asm); (case q9m => k_mem); k_whole); intro b' h' k' F' N' l1; (try k_lt l1)))
  k_with "getAttr ref" => ((k_here; k_dflt (refine' w_bound ?q9F ?q9N ?q9m ?_; (case q9F => k_asm); (case q9N => k_asm); (case q9m => k_mem); k_whole); intro b' h' k' F' N' l1; (try k_lt l1)))
  k_with "exec While BoolOp cons nil" => ((k_here; k_extra "mine while"))
  k_with "StandsA" => (exact standsA (by k_asm) (by k_mem))
  k_with "callWith ref" => ((k_here; k_dflt (refine' callWith_boundA ?q9N ?q9m ?_; (case q9N => k_asm); (case q9m => k_mem); k_whole)))
  k_with "And" => (((with_reducible show StandsA _ _ _ ∧ _); refine ⟨standsA (by k_asm) (by k_mem), ?_⟩; try dsimp only [List.nil_append, List.cons_append]))
  k_with "compareOp NotIn str str" => ((k_here; k_dflt (refine' t_notin' ?q9y ?q9c ?_; (case q9y => walk_at "mine word"); (case q9c => k_extra "mine notin"); k_whole)))
  k_with "call builtin:str.replace" => ((k_here; k_dflt (refine' t_replace ?q9hu ?q9hv ?q9huv ?q9y ?q9z ?q9r ?q9yz ?q9x ?_; (case q9y => walk_at "mine word"); (case q9z => walk_at "mine word"); (case q9hu => exact Nat.succ_ne_zero _); (case q9hv => exact Nat.succ_ne_zero _); (case q9huv => exact Nat.ne_of_lt (Nat.lt_succ_self _)); (case q9r => decide); (case q9yz => decide +kernel); (case q9x => walk_at "mine len"); k_whole); intro t' k'))
  k_with "joinParts" => ((k_here; k_dflt (first
  | (refine' t_jp_cons ?q9o ?_; (case q9o => first | exact w_nil | with_reducible rfl | rfl); k_whole)
  | (refine' t_jp_nil ?q9x ?_; (case q9x => walk_at "mine len"); k_whole; intro t' k'))))
  k_with "Exists" => ((k_dflt (refine' ⟨_, ?q9y, ?q9l, ?_⟩; (case q9y => walk_at "mine word"); (case q9l => walk_at "mine len"); k_whole)))
  k_with "compareOp IsNot str ref" => ((k_here; refine wpAny_isNot_other (by rfl) (by intro x; cases x) ?_))
  k_with "compareOp IsNot ref ref" => ((k_here; refine wpAny_isNot_self (by rfl) ?_))
  k_with "subscriptTail Name Constant str int" => ((k_here; (with_reducible show wpAny _ _ (subscriptTail _ _ (Value.str (mkS _) _) _) _ _ _); k_dflt (refine' t_item ?q9x ?q9i ?q9j ?_ ?q9hs ?q9ht; (case q9x => walk_at "mine len"); (case q9i => walk_at "mine len"); (case q9j => k_extra "mine first"); (case q9hs => with_unfolding_all rfl); (case q9ht => intro _; with_unfolding_all rfl); k_whole); intro c' hc'))
  k_with "execs cons" => ((k_here; k_extra "mine toks"))
  k_with "compareOp Is str ref" => ((k_here; refine wpAny_is_other (by rfl) (by intro x; cases x) ?_))
  k_with "compareOp Is ref ref" => ((k_here; refine wpAny_is_self (by rfl) ?_))
  k_with "compareOp In str str" => ((k_here; k_dflt (refine' t_in ?q9y ?_; (case q9y => walk_at "mine word"); k_whole)))
  k_with "TTurn ret" => (dsimp only [TTurn])
  k_with "TJoin next" => ((k_here; k_dflt (refine' tjoin ?q9F ?q9N ?q9e ?q9hm ?q9hi ?_; (case q9F => k_asm); (case q9e => exact rfl); (case q9N => k_extra "mine ledger"); (case q9hm => (intro y h1 h2; (repeat (first | (with_reducible exact rfl) | refine ite_off (by assumption) ?_)); (try exact rfl))); (case q9hi => exact rfl))))
  k_with "TTurn brk" => (dsimp only [TTurn])
  k_with "TTurn next" => ((k_here; k_dflt (refine' tturn_next ?q9F ?q9N ?q9e ?q9hm ?q9hi ?_ ?_; (case q9F => k_asm); (case q9e => exact rfl); (case q9N => k_extra "mine ledger"); (case q9hm => (intro y h1 h2; (repeat (first | (with_reducible exact rfl) | refine ite_off (by assumption) ?_)); (try exact rfl))); (case q9hi => exact rfl))))
  k_with "mine sub" => (first | exact fun _ h => h | (refine fun p hp => ?_; repeat (first | exact hp | refine List.Mem.tail _ ?_)))
  trivial
theorem w_bamp : Str.ofString "b&" = mkS [98, 38] := by decide +kernel
theorem w_elt : Str.ofString "é<" = mkS [233, 60] := by decide +kernel
theorem retS_of {h₀ h' : Heap} {L : Addr} {m : Str → Option Value} {news news' : List (Addr × Obj)} {s : Shared} {Q : Value → Shared → Prop} {tk' : Nat} {R : Tok → Value} {v : Value} {st : Option (Addr × Obj)}
    (hret : RetS h₀ L m news s Q R) (t : Tok) (e : v = R t) (hst : OkTab lamQ st) (F : Fr h₀ L h' m) (N : News h₀ L h' news') (sub : ∀ p ∈ tabL st ++ news, p ∈ news') : Q v { s with heap := h', toks := tk' } :=
  e ▸ hret t st h' tk' hst F fun p hp => N p (sub p hp)
theorem use_ctS {prog : Program} {w : World} {p : Program} {loose : List Str} {mean : ExcName → Option Value} {mg mb : Str → Option Value} {f : Addr} {d u : Nat} {vs : List Value} {R : Tok → Value} {dp un : Nat} {gd : Option (List Code)} {cn : Str} {cs : Scope} {a : Addr} {ccd : Value} {cl : List (Str × Addr)} {outer : List Env} {A₀ : Around} {base h₀ : Heap} {L : Addr} {m : Str → Option Value} {news : List (Addr × Obj)} {s : Shared} {Q E : Value → Shared → Prop} {st : Option (Addr × Obj)}
    (C : CtS prog w p loose mean mg mb f d u vs R) (B : Below A₀ base outer h₀) (F : Fr h₀ L s.heap m) (X : (K w.params).In h₀) (N : News h₀ L s.heap (tabL st ++ news)) (hst : OkTab lamQ st) (hn : ∀ q ∈ news, q.1 ≠ 71) (T : Top p loose mean mg mb h₀) (hk : cs.kind = .function) (hd : dp + d < recursionLimit) (hu : un + u < cLine) (hret : RetS h₀ L m news s Q R) :
    wpAny (model prog w) (ktrTop dp un gd cn cs L a ccd cl outer) (call (.ref f) vs) Q E s := C _ _ _ _ _ _ _ _ _ _ _ _ _ _ _ _ _ _ _ B F X N hst hn T hk hd hu hret
theorem hand_0 {k : Int} {x : List Nat} (h0 : k = 0) : handL k x = escL tblCdata x := by unfold handL; rw [if_pos h0]
theorem hand_1 {k : Int} {x : List Nat} (h0 : ¬ k = 0) (h1 : k = 1) : handL k x = fnL x := by unfold handL; rw [if_neg h0, if_pos h1]
theorem hand_2 {k : Int} {x : List Nat} (h0 : ¬ k = 0) (h1 : ¬ k = 1) (h2 : k = 2) : handL k x = normL x := by unfold handL; rw [if_neg h0, if_neg h1, if_pos h2]
theorem hand_3 {k : Int} {x : List Nat} (h0 : ¬ k = 0) (h1 : ¬ k = 1) (h2 : ¬ k = 2) (h3 : k = 3) : handL k x = escL tblAttrib x := by unfold handL; rw [if_neg h0, if_neg h1, if_neg h2, if_pos h3]
theorem hand_4 {k : Int} {x : List Nat} (h0 : ¬ k = 0) (h1 : ¬ k = 1) (h2 : ¬ k = 2) (h3 : ¬ k = 3) (h4 : k = 4) : handL k x = join2L [98, 38] x := by unfold handL; rw [if_neg h0, if_neg h1, if_neg h2, if_neg h3, if_pos h4]
theorem hand_5 {k : Int} {x : List Nat} (h0 : ¬ k = 0) (h1 : ¬ k = 1) (h2 : ¬ k = 2) (h3 : ¬ k = 3) (h4 : ¬ k = 4) (h5 : k = 5) : handL k x = escL tblHtml x := by unfold handL; rw [if_neg h0, if_neg h1, if_neg h2, if_neg h3, if_neg h4, if_pos h5]
theorem hand_6 {k : Int} {x : List Nat} (h0 : ¬ k = 0) (h1 : ¬ k = 1) (h2 : ¬ k = 2) (h3 : ¬ k = 3) (h4 : ¬ k = 4) (h5 : ¬ k = 5) (h6 : k = 6) : handL k x = dirL x := by unfold handL; rw [if_neg h0, if_neg h1, if_neg h2, if_neg h3, if_neg h4, if_neg h5, if_pos h6]
theorem hand_7 {k : Int} {x : List Nat} (h0 : ¬ k = 0) (h1 : ¬ k = 1) (h2 : ¬ k = 2) (h3 : ¬ k = 3) (h4 : ¬ k = 4) (h5 : ¬ k = 5) (h6 : ¬ k = 6) (h7 : k = 7) : handL k x = escL tblCdataC x := by unfold handL; rw [if_neg h0, if_neg h1, if_neg h2, if_neg h3, if_neg h4, if_neg h5, if_neg h6, if_pos h7]
theorem hand_8 {k : Int} {x : List Nat} (h0 : ¬ k = 0) (h1 : ¬ k = 1) (h2 : ¬ k = 2) (h3 : ¬ k = 3) (h4 : ¬ k = 4) (h5 : ¬ k = 5) (h6 : ¬ k = 6) (h7 : ¬ k = 7) (h8 : k = 8) : handL k x = join2L x [233, 60] := by unfold handL; rw [if_neg h0, if_neg h1, if_neg h2, if_neg h3, if_neg h4, if_neg h5, if_neg h6, if_neg h7, if_pos h8]
theorem hand_9 {k : Int} {x : List Nat} (h0 : ¬ k = 0) (h1 : ¬ k = 1) (h2 : ¬ k = 2) (h3 : ¬ k = 3) (h4 : ¬ k = 4) (h5 : ¬ k = 5) (h6 : ¬ k = 6) (h7 : ¬ k = 7) (h8 : ¬ k = 8) (h9 : k = 9) : handL k x = escL tblAttribC x := by unfold handL; rw [if_neg h0, if_neg h1, if_neg h2, if_neg h3, if_neg h4, if_neg h5, if_neg h6, if_neg h7, if_neg h8, if_pos h9]
theorem hand_10 {k : Int} {x : List Nat} (h0 : ¬ k = 0) (h1 : ¬ k = 1) (h2 : ¬ k = 2) (h3 : ¬ k = 3) (h4 : ¬ k = 4) (h5 : ¬ k = 5) (h6 : ¬ k = 6) (h7 : ¬ k = 7) (h8 : ¬ k = 8) (h9 : ¬ k = 9) (h10 : k = 10) : handL k x = sextT x := by unfold handL; rw [if_neg h0, if_neg h1, if_neg h2, if_neg h3, if_neg h4, if_neg h5, if_neg h6, if_neg h7, if_neg h8, if_neg h9, if_pos h10]
theorem hand_11 {k : Int} {x : List Nat} (h0 : ¬ k = 0) (h1 : ¬ k = 1) (h2 : ¬ k = 2) (h3 : ¬ k = 3) (h4 : ¬ k = 4) (h5 : ¬ k = 5) (h6 : ¬ k = 6) (h7 : ¬ k = 7) (h8 : ¬ k = 8) (h9 : ¬ k = 9) (h10 : ¬ k = 10) : handL k x = baseL x := by unfold handL; rw [if_neg h0, if_neg h1, if_neg h2, if_neg h3, if_neg h4, if_neg h5, if_neg h6, if_neg h7, if_neg h8, if_neg h9, if_neg h10]
theorem c_join4 (prog : Program) (w : World) (p : Program) (loose : List Str) (mean : ExcName → Option Value) (mg mb : Str → Option Value) (y : List Nat) (t u : Tok) (hy : y.length ≤ 100000) :
    Ct prog w p loose mean mg mb 184 2 24 [.str (Str.ofString "b&") t, .str (mkS y) u] (fun t => .str (mkS (join2L [98, 38] y)) t) := by
  rw [w_bamp]; exact c_join prog w p loose mean mg mb [98, 38] y t u (by decide) hy
theorem c_join8 (prog : Program) (w : World) (p : Program) (loose : List Str) (mean : ExcName → Option Value) (mg mb : Str → Option Value) (x : List Nat) (t u : Tok) (hx : x.length ≤ 100000) :
    Ct prog w p loose mean mg mb 184 2 24 [.str (mkS x) t, .str (Str.ofString "é<") u] (fun t => .str (mkS (join2L x [233, 60])) t) := by
  rw [w_elt]; exact c_join prog w p loose mean mg mb x [233, 60] t u hx (by decide)
theorem lines_IlN1_1 : True := by
  k_with "mine enterS" => ((unfold CtS; intro dp un gd cn cs a ccd cl outer A₀ base h₀ L m news s Q E st B F X N hst hn71 T hk hd hu hret; refine wpAny_call ?_; k_dflt cell_enter))
  k_with "call ref" => ((k_here; k_extra "mine calls"))
  trivial
set_option maxHeartbeats 4000000 in
theorem c_hand (prog : Program) (w : World) (p : Program) (loose : List Str) (mean : ExcName → Option Value) (mg mb : Str → Option Value) (k : Int) (x : List Nat) (u t : Tok) (h0 : 0 ≤ k) (h1 : k ≤ 11) (hx : x.length ≤ 100000) (hy : 45 ∉ x) :
    CtS prog w p loose mean mg mb 278 8 100 [.int k u, .str (mkS x) t] (fun t => .str (mkS (handL k x)) t) := by
  walk_at "mine enterS"
  k_with "mine calls" => refine Stop.go ?_
  k_steps
  all_goals refine Stop.of ?_
  · refine use_ct (c_Cdata _ _ _ _ _ _ _ _ _ hx) (by assumption) (by k_asm) (by assumption) (by k_asm) (by assumption) rfl (by ktr_room) (by ktr_units) ?_
    intro t9 h9 tk9 F9 N9
    k_steps
    exact retS_of hret _ (veq (hand_0 (by assumption)).symm) hst (by k_asm) (by k_asm) (fun _ h => h)
  · refine use_ctS (c_translate _ _ _ _ _ _ _ _ _ hx hy) (by assumption) (by k_asm) (by assumption) (by k_asm) hst hn71 (by assumption) rfl (by ktr_room) (by ktr_units) ?_
    intro t9 st9 h9 tk9 hst9 F9 N9
    k_steps
    exact retS_of hret _ (veq (hand_1 (by assumption) (by assumption)).symm) hst9 (by k_asm) (by k_asm) (fun _ h => h)
  · refine use_ct (c_normpath _ _ _ _ _ _ _ _ _ hx) (by assumption) (by k_asm) (by assumption) (by k_asm) (by assumption) rfl (by ktr_room) (by ktr_units) ?_
    intro t9 h9 tk9 F9 N9
    k_steps
    exact retS_of hret _ (veq (hand_2 (by assumption) (by assumption) (by assumption)).symm) hst (by k_asm) (by k_asm) (fun _ h => h)
  · refine use_ct (c_Attrib _ _ _ _ _ _ _ _ _ hx) (by assumption) (by k_asm) (by assumption) (by k_asm) (by assumption) rfl (by ktr_room) (by ktr_units) ?_
    intro t9 h9 tk9 F9 N9
    k_steps
    exact retS_of hret _ (veq (hand_3 (by assumption) (by assumption) (by assumption) (by assumption)).symm) hst (by k_asm) (by k_asm) (fun _ h => h)
  · refine use_ct (c_join4 _ _ _ _ _ _ _ _ _ _ hx) (by assumption) (by k_asm) (by assumption) (by k_asm) (by assumption) rfl (by ktr_room) (by ktr_units) ?_
    intro t9 h9 tk9 F9 N9
    k_steps
    exact retS_of hret _ (veq (hand_4 (by assumption) (by assumption) (by assumption) (by assumption) (by assumption)).symm) hst (by k_asm) (by k_asm) (fun _ h => h)
  · refine use_ct (c_Html _ _ _ _ _ _ _ _ _ hx) (by assumption) (by k_asm) (by assumption) (by k_asm) (by assumption) rfl (by ktr_room) (by ktr_units) ?_
    intro t9 h9 tk9 F9 N9
    k_steps
    exact retS_of hret _ (veq (hand_5 (by assumption) (by assumption) (by assumption) (by assumption) (by assumption) (by assumption)).symm) hst (by k_asm) (by k_asm) (fun _ h => h)
  · refine use_ct (c_dirname _ _ _ _ _ _ _ _ _ hx) (by assumption) (by k_asm) (by assumption) (by k_asm) (by assumption) rfl (by ktr_room) (by ktr_units) ?_
    intro t9 h9 tk9 F9 N9
    k_steps
    exact retS_of hret _ (veq (hand_6 (by assumption) (by assumption) (by assumption) (by assumption) (by assumption) (by assumption) (by assumption)).symm) hst (by k_asm) (by k_asm) (fun _ h => h)
  · refine use_ct (c_CdataC _ _ _ _ _ _ _ _ _ hx) (by assumption) (by k_asm) (by assumption) (by k_asm) (by assumption) rfl (by ktr_room) (by ktr_units) ?_
    intro t9 h9 tk9 F9 N9
    k_steps
    exact retS_of hret _ (veq (hand_7 (by assumption) (by assumption) (by assumption) (by assumption) (by assumption) (by assumption) (by assumption) (by assumption)).symm) hst (by k_asm) (by k_asm) (fun _ h => h)
  · refine use_ct (c_join8 _ _ _ _ _ _ _ _ _ _ hx) (by assumption) (by k_asm) (by assumption) (by k_asm) (by assumption) rfl (by ktr_room) (by ktr_units) ?_
    intro t9 h9 tk9 F9 N9
    k_steps
    exact retS_of hret _ (veq (hand_8 (by assumption) (by assumption) (by assumption) (by assumption) (by assumption) (by assumption) (by assumption) (by assumption) (by assumption)).symm) hst (by k_asm) (by k_asm) (fun _ h => h)
  · refine use_ct (c_AttribC _ _ _ _ _ _ _ _ _ hx) (by assumption) (by k_asm) (by assumption) (by k_asm) (by assumption) rfl (by ktr_room) (by ktr_units) ?_
    intro t9 h9 tk9 F9 N9
    k_steps
    exact retS_of hret _ (veq (hand_9 (by assumption) (by assumption) (by assumption) (by assumption) (by assumption) (by assumption) (by assumption) (by assumption) (by assumption) (by assumption)).symm) hst (by k_asm) (by k_asm) (fun _ h => h)
  · obtain ⟨r9, e9⟩ := sext_eq x
    have C9 := c_splitext prog w p loose mean mg mb x t hx
    rw [e9] at C9
    refine use_ctT C9 (by assumption) (by k_asm) (by assumption) (by k_asm) (by assumption) rfl (by ktr_room) (by ktr_units) ?_
    intro D9 ps9 h9 tk9 ep9 F9 N9 l9
    obtain ⟨ta, tb, e8⟩ := two_of ep9
    subst e8
    dsimp only [tv, List.map] at N9
    k_steps
    exact retS_of hret _ (veq (hand_10 (by assumption) (by assumption) (by assumption) (by assumption) (by assumption) (by assumption) (by assumption) (by assumption) (by assumption) (by assumption) (by assumption)).symm) hst (by k_asm) (by k_asm) (fun _ h => .tail _ h)
  · refine use_ct (c_basename _ _ _ _ _ _ _ _ _ hx) (by assumption) (by k_asm) (by assumption) (by k_asm) (by assumption) rfl (by ktr_room) (by ktr_units) ?_
    intro t9 h9 tk9 F9 N9
    k_steps
    exact retS_of hret _ (veq (hand_11 (by assumption) (by assumption) (by assumption) (by assumption) (by assumption) (by assumption) (by assumption) (by assumption) (by assumption) (by assumption) (by assumption)).symm) hst (by k_asm) (by k_asm) (fun _ h => h)

end Mine
end -- IlN1
section -- IlN2
open PySem PySem.W PyProof.Rows PySem.Calls PySem.Spec
namespace Mine
theorem lines_IlN2L_1 : True := by
  k_with_none
  k_with "execs cons" => ((k_here; (try k_gentoks); (with_reducible refine wpAny_execs_cons ?_); (try dsimp only); k_fold))
  k_with "mine sub" => (first | exact fun _ h => h | exact fun _ h => .tail _ h | exact fun _ h => .tail _ (.tail _ h) | exact fun _ h => .tail _ (.tail _ (.tail _ h)) | exact fun _ h => .tail _ (.tail _ (.tail _ (.tail _ h))) | exact fun _ h => .tail _ (.tail _ (.tail _ (.tail _ (.tail _ h)))))
  k_with "mine eq" => (first | rfl | (subst_vars; rfl))
  k_with "mine end" => ((refine' ret_of (by assumption) _ ?q9e1 ?q9e2 ?q9e3 ?q9e4; (case q9e2 => k_asm); (case q9e3 => k_asm); (case q9e4 => walk_at "mine sub"); (case q9e1 => walk_at "mine eq"); (all_goals exact (0 : Nat))))
  k_with "mine endS" => ((refine' ret_of (by assumption) _ (veq ?_) ?q9e2 ?q9e3 ?q9e4; (case q9e2 => k_asm); (case q9e3 => k_asm); (case q9e4 => walk_at "mine sub")))
  k_with "mine lt" => (first | assumption | exact ktn_ltOf (by assumption))
  k_with "mine endT3" => ((refine' ret_ofT (by assumption) ?q9F ?q9N ?q9l ?q9s [(_, _), (_, _), (_, _)] ?q9o ?_; (case q9F => k_asm); (case q9N => k_asm); (case q9l => walk_at "mine lt"); (case q9s => walk_at "mine sub"); (case q9o => ((try simp only [w_nil, w_slash]); rfl))))
  k_with "mine endTT" => ((refine' ret_ofT (by assumption) ?q9F ?q9N ?q9l ?q9s _ ?q9o ?q9e; (case q9F => k_asm); (case q9N => k_asm); (case q9l => walk_at "mine lt"); (case q9s => walk_at "mine sub"); (case q9o => exact rfl); (case q9e => assumption)))
  k_with "mine endT2" => ((refine' ret_ofT (by assumption) ?q9F ?q9N ?q9l ?q9s [(_, _), (_, _)] ?q9o ?_; (case q9F => k_asm); (case q9N => k_asm); (case q9l => walk_at "mine lt"); (case q9s => walk_at "mine sub"); (case q9o => ((try simp only [w_nil, w_slash]); rfl))))
  k_with "mine enterT" => ((unfold CtT; intro dp un gd cn cs a ccd cl outer A₀ base h₀ L m news s Q E B F X N T hk hd hu hret; refine wpAny_call ?_; k_dflt cell_enter))
  k_with "mine enterR" => ((unfold Ct; intro dp un gd cn cs a ccd cl outer A₀ base h₀ L m news s Q E B F X N T hk hd hu hret; refine wpAny_call ?_; k_dflt (refine' kp_rest ?q9k1 ?q9k2 ?q9k3 ?q9k4 ?q9k5 ?q9kA ?q9kF ?q9kK ?q9k6 ?q9k7 ?q9k8 ?q9kV ?q9kP ?q9kG ?q9kB ?_ ?q9c2 ?q9c3 ?q9c4 ?q9c5; (case q9kA => exact rfl); (case q9kF => exact rfl); (case q9kK => assumption); (case q9k1 => k_asm); (case q9k2 => k_asm); (case q9k3 => k_asm); (case q9k4 => k_asm); (case q9k5 => k_asm); (case q9k6 => k_is); (case q9k7 => k_is); (case q9k8 => ktr_room); (case q9kV => kl_lit); (case q9kP => exact rfl); (case q9kG => exact fun _ => rfl); (case q9kB => exact fun _ => locs rfl); (case q9c5 => decide); (case q9c2 => exact rfl); (case q9c3 => exact rfl); (case q9c4 => exact rfl); k_whole); intro D' g' L' h' l1 FG' F' N' B' X' T'; (try k_lt l1); (try dsimp only); (try k_lift B'); (try k_fold)))
  k_with "mine enter" => ((unfold Ct; intro dp un gd cn cs a ccd cl outer A₀ base h₀ L m news s Q E B F X N T hk hd hu hret; refine wpAny_call ?_; k_dflt cell_enter))
  k_with "mine use" => (((case q9k1 => k_asm); (case q9k2 => k_asm); (case q9k3 => k_asm); (case q9k4 => k_asm); (case q9k5 => k_asm); (case q9kK => first | exact rfl | assumption); (case q9kd => ktr_room); (case q9ku => ktr_units); intro t9 h9 tk9 F9 N9; (try dsimp only); (try k_fold); (try k_sweep)))
  k_with "mine useT" => (((case q9k1 => k_asm); (case q9k2 => k_asm); (case q9k3 => k_asm); (case q9k4 => k_asm); (case q9k5 => k_asm); (case q9kK => first | exact rfl | assumption); (case q9kd => ktr_room); (case q9ku => ktr_units); intro D9 ps9 h9 tk9 e9 F9 N9 l9; (try k_lt l9); (try dsimp only); (try k_fold); (try k_sweep)))
  k_with "mine word" => (first | with_reducible exact w_slash | with_reducible exact w_dot | with_reducible exact w_dotdot | with_reducible exact w_nil | with_reducible rfl)
  k_with "mine len" => (first | assumption | lia | (simp only [List.length_take, List.length_drop, List.length_append, List.length_replicate, List.length_cons, List.length_nil]; lia))
  k_with "call builtin:issubclass" => ((k_here; k_dflt (refine' k_issub ?q9k1 ?q9k2 ?_; (case q9k1 => k_asm); (case q9k2 => k_mem); k_whole)))
  k_with "call builtin:str.rfind" => ((k_here; k_dflt (refine' t_rfind ?q9y ?_; (case q9y => walk_at "mine word"); k_whole); intro r' hr' h1' h2'))
  k_with "subscriptTail Name Slice str ref" => ((k_here; (with_reducible show wpAny _ _ (subscriptTail _ (Expr.Slice (some _) none none _) (Value.str (mkS _) _) _) _ _ _); k_dflt (refine' t_slice_from (s := ⟨_, _, _, _, _⟩) ?q9F ?q9N ?q9x ?q9i ?_ ?q9hs ?q9ht; (case q9F => k_asm); (case q9N => k_asm); (case q9x => walk_at "mine len"); (case q9i => walk_at "mine len"); (case q9hs => with_unfolding_all rfl); (case q9ht => intro _; with_unfolding_all rfl); k_whole); intro h' t' k' F' N'; (try k_sweep)))
  k_with "subscriptTail Name Slice str ref" => ((k_here; (with_reducible show wpAny _ _ (subscriptTail _ (Expr.Slice none (some _) none _) (Value.str (mkS _) _) _) _ _ _); k_dflt (refine' t_slice_to (s := ⟨_, _, _, _, _⟩) ?q9F ?q9N ?q9x ?q9i ?_ ?q9hs ?q9ht; (case q9F => k_asm); (case q9N => k_asm); (case q9x => walk_at "mine len"); (case q9i => walk_at "mine len"); (case q9hs => with_unfolding_all rfl); (case q9ht => intro _; with_unfolding_all rfl); k_whole); intro h' t' k' F' N'; (try k_sweep)))
  k_with "subscriptTail Name Slice str ref" => ((k_here; (with_reducible show wpAny _ _ (subscriptTail _ (Expr.Slice (some _) (some _) none _) (Value.str (mkS _) _) _) _ _ _); k_dflt (refine' t_slice_mid (s := ⟨_, _, _, _, _⟩) ?q9F ?q9N ?q9x ?q9i ?q9j ?_ ?q9hs ?q9ht; (case q9F => k_asm); (case q9N => k_asm); (case q9x => walk_at "mine len"); (case q9i => walk_at "mine len"); (case q9j => walk_at "mine len"); (case q9hs => with_unfolding_all rfl); (case q9ht => intro _; with_unfolding_all rfl); k_whole); intro h' t' k' F' N'; (try k_sweep)))
  k_with "truthy str" => ((k_here; (with_reducible show wpAny _ _ (PySem.truthy (Value.str (mkS _) _)) _ _ _); k_dflt (refine' t_truthy ?q9x ?_; (case q9x => walk_at "mine len"); k_whole); intro k'))
  k_with "call builtin:len" => ((k_here; (with_reducible show wpAny _ _ (call (Value.builtin "len") [Value.str (mkS _) _]) _ _ _); k_dflt (refine' t_len ?q9x ?_; (case q9x => walk_at "mine len"); k_whole); intro k'))
  k_with "compareOp NotEq str str" => ((k_here; (with_reducible show wpAny _ _ (compareOp CmpOp.NotEq (Value.str (mkS _) _) _) _ _ _); k_dflt (refine' t_ne ?q9y ?_; (case q9y => walk_at "mine word"); k_whole)))
  k_with "compareOp Eq str str" => ((k_here; (with_reducible show wpAny _ _ (compareOp CmpOp.Eq (Value.str (mkS _) _) _) _ _ _); k_dflt (refine' t_eq ?q9y ?_; (case q9y => walk_at "mine word"); k_whole)))
  k_with "binaryOp Add str str" => ((k_here; k_dflt (refine' t_add ?q9x ?q9y ?q9l ?_; (case q9x => walk_at "mine word"); (case q9y => walk_at "mine word"); (case q9l => walk_at "mine len"); k_whole); intro t' k'))
  k_with "binaryOp Mult str int" => ((k_here; k_dflt (refine' t_mul ?q9y ?q9a ?q9b ?_; (case q9y => walk_at "mine word"); (case q9a => walk_at "mine len"); (case q9b => walk_at "mine len"); k_whole); intro t' k'))
  k_with "call builtin:str.rstrip" => ((k_here; k_dflt (refine' t_rstrip ?q9y ?q9x ?_; (case q9y => walk_at "mine word"); (case q9x => walk_at "mine len"); k_whole); intro t' k'))
  k_with "call builtin:str.lstrip" => ((k_here; k_dflt (refine' t_lstrip ?q9y ?q9x ?_; (case q9y => walk_at "mine word"); (case q9x => walk_at "mine len"); k_whole); intro t' k'))
  k_with "call builtin:str.startswith" => ((k_here; k_dflt (refine' t_starts ?q9y ?_; (case q9y => walk_at "mine word"); k_whole)))
  k_with "call builtin:str.endswith" => ((k_here; k_dflt (refine' t_ends ?q9y ?_; (case q9y => walk_at "mine word"); k_whole)))
  k_with "call builtin:str.split" => ((k_here; k_dflt (refine' t_split ?q9F ?q9N ?q9y ?q9x ?_; (case q9F => k_asm); (case q9N => k_asm); (case q9y => walk_at "mine word"); (case q9x => walk_at "mine len"); k_whole); intro ps' h' k' e' F' N'; (try k_sweep)))
  k_with "call builtin:str.join" => ((k_here; k_dflt (refine' t_join ?q9N ?q9m ?q9y ?q9l ?_; (case q9N => k_asm); (case q9m => k_mem); (case q9y => walk_at "mine word"); (case q9l => walk_at "mine len"); k_whole); intro t' k'))
  k_with "subscriptTail Name Name str int" => ((k_here; (with_reducible show wpAny _ _ (subscriptTail _ _ (Value.str (mkS _) _) _) _ _ _); k_dflt (refine' t_item ?q9x ?q9i ?q9j ?_ ?q9hs ?q9ht; (case q9x => walk_at "mine len"); (case q9i => walk_at "mine len"); (case q9j => walk_at "mine len"); (case q9hs => with_unfolding_all rfl); (case q9ht => intro _; with_unfolding_all rfl); k_whole); intro c' hc'))
  k_with "exec While Compare cons nil" => ((k_here; k_extra "mine while"))
  k_with "IntTurn ret" => (dsimp only [IntTurn])
  k_with "IntTurn next" => ((refine' int_turn_next ?q9F ?q9N ?q9m ?q9P; (case q9F => k_asm); (case q9N => k_asm); (case q9m => k_extra "mine measure"); (case q9P => k_extra "mine state")))
  k_with "exec If" => ((k_here; k_extra "mine if"))
  k_with "exec For Name Name cons nil" => ((k_here; k_extra "mine for"))
  k_with "pyIter ref" => ((k_here; k_extra "mine iter"))
  k_with "LoopStep3 next" => ((k_extra "mine step"))
  k_with "inplaceOp Add str str" => ((k_here; k_dflt (refine' t_iadd ?q9x ?q9y ?q9l ?_; (case q9x => walk_at "mine word"); (case q9y => walk_at "mine word"); (case q9l => walk_at "mine len"); k_whole); intro t' k'))
  k_with "TurnEnd next" => ((refine' acc_next ?q9F ?q9N ?q9m ?q9hlt ?_; (case q9F => k_asm); (case q9N => k_asm); (case q9m => k_mem); (case q9hlt => assumption)))
  k_with "TurnEnd cont" => ((refine' acc_cont ?q9F ?q9N ?q9m ?q9hlt ?_; (case q9F => k_asm); (case q9N => k_asm); (case q9m => k_mem); (case q9hlt => assumption)))
  k_with "truthy ref" => ((k_here; k_dflt (refine' t_truthyL ?q9N ?q9m ?q9z ?_; (case q9N => k_asm); (case q9m => k_mem); (case q9z => walk_at "mine len"); k_whole); intro k'))
  k_with "subscriptTail Name UnaryOp ref int" => ((k_here; k_dflt (refine' t_last ?q9N ?q9m ?q9e ?q9z ?_ ?q9s; (case q9N => k_asm); (case q9m => k_mem); (case q9e => first | assumption | (simp_all; done)); (case q9z => walk_at "mine len"); (case q9s => with_unfolding_all rfl); k_whole); intro q' p' e'))
  k_with "call builtin:list.append" => ((k_here; k_dflt (refine' t_append ?q9F ?q9N ?q9y ?q9U ?q9z ?_; (case q9F => k_asm); (case q9N => k_asm); (case q9y => walk_at "mine word"); (case q9U => k_upd); (case q9z => walk_at "mine len"); k_whole); intro h' F' N'; (try k_sweep)))
  k_with "call builtin:list.pop" => ((k_here; k_dflt (refine' t_pop ?q9F ?q9N ?q9e ?q9U ?q9z ?_; (case q9F => k_asm); (case q9N => k_asm); (case q9e => first | assumption | (simp_all; done)); (case q9U => k_upd); (case q9z => walk_at "mine len"); k_whole); intro h' v' F' N'; (try k_sweep)))
  k_with "truthy str" => ((k_here; (with_reducible show wpAny _ _ (PySem.truthy (Value.str (mkS [_]) _)) _ _ _); k_dflt (refine t_truthy1 ?_); intro k'))
  k_with "formatField str" => ((k_here; k_dflt (refine' t_field ?q9x ?_; (case q9x => walk_at "mine len"); k_whole); intro t' k'))
  k_with "exec If" => ((k_here; refine wpAny_If ?_))
  k_with "mine word" => (first | with_reducible exact w_slash | with_reducible exact w_dot | with_reducible exact w_dotdot | with_reducible exact w_nil | with_reducible exact w_star | with_reducible exact w_quest | with_reducible exact w_open | with_reducible exact w_bang | with_reducible exact w_shut | with_reducible exact w_hyph | with_reducible exact w_bsl | with_reducible exact w_bsl2 | with_reducible exact w_never | with_reducible exact w_hat | with_reducible exact w_bopen | with_reducible exact w_dots | with_reducible exact w_lazy | with_reducible exact w_par | with_reducible exact w_pre | with_reducible exact w_end | with_reducible rfl)
  k_with "getAttr ref true" => ((k_here; k_dflt (refine' w_bound ?q9F ?q9N ?q9m ?_; (case q9F => k_asm); (case q9N => k_asm); (case q9m => k_mem); k_whole); intro b' h' k' F' N' l1; (try k_lt l1)))
  k_with "getAttr ref" => ((k_here; k_dflt (refine' w_bound ?q9F ?q9N ?q9m ?_; (case q9F => k_asm); (case q9N => k_asm); (case q9m => k_mem); k_whole); intro b' h' k' F' N' l1; (try k_lt l1)))
  k_with "exec While BoolOp cons nil" => ((k_here; k_extra "mine while"))
  k_with "StandsA" => (exact standsA (by k_asm) (by k_mem))
  k_with "callWith ref" => ((k_here; k_dflt (refine' callWith_boundA ?q9N ?q9m ?_; (case q9N => k_asm); (case q9m => k_mem); k_whole)))
  k_with "And" => (((with_reducible show StandsA _ _ _ ∧ _); refine ⟨standsA (by k_asm) (by k_mem), ?_⟩; try dsimp only [List.nil_append, List.cons_append]))
  k_with "compareOp NotIn str str" => ((k_here; k_dflt (refine' t_notin' ?q9y ?q9c ?_; (case q9y => walk_at "mine word"); (case q9c => k_extra "mine notin"); k_whole)))
  k_with "call builtin:str.replace" => ((k_here; k_dflt (refine' t_replace ?q9hu ?q9hv ?q9huv ?q9y ?q9z ?q9r ?q9yz ?q9x ?_; (case q9y => walk_at "mine word"); (case q9z => walk_at "mine word"); (case q9hu => exact Nat.succ_ne_zero _); (case q9hv => exact Nat.succ_ne_zero _); (case q9huv => exact Nat.ne_of_lt (Nat.lt_succ_self _)); (case q9r => decide); (case q9yz => decide +kernel); (case q9x => walk_at "mine len"); k_whole); intro t' k'))
  k_with "joinParts" => ((k_here; k_dflt (first
  | (refine' t_jp_cons ?q9o ?_; (case q9o => first | exact w_nil | with_reducible rfl | rfl); k_whole)
  | (refine' t_jp_nil ?q9x ?_; (case q9x => walk_at "mine len"); k_whole; intro t' k'))))
  k_with "Exists" => ((k_dflt (refine' ⟨_, ?q9y, ?q9l, ?_⟩; (case q9y => walk_at "mine word"); (case q9l => walk_at "mine len"); k_whole)))
  k_with "compareOp IsNot str ref" => ((k_here; refine wpAny_isNot_other (by rfl) (by intro x; cases x) ?_))
  k_with "compareOp IsNot ref ref" => ((k_here; refine wpAny_isNot_self (by rfl) ?_))
  k_with "subscriptTail Name Constant str int" => ((k_here; (with_reducible show wpAny _ _ (subscriptTail _ _ (Value.str (mkS _) _) _) _ _ _); k_dflt (refine' t_item ?q9x ?q9i ?q9j ?_ ?q9hs ?q9ht; (case q9x => walk_at "mine len"); (case q9i => walk_at "mine len"); (case q9j => k_extra "mine first"); (case q9hs => with_unfolding_all rfl); (case q9ht => intro _; with_unfolding_all rfl); k_whole); intro c' hc'))
  k_with "execs cons" => ((k_here; k_extra "mine toks"))
  k_with "compareOp Is str ref" => ((k_here; refine wpAny_is_other (by rfl) (by intro x; cases x) ?_))
  k_with "compareOp Is ref ref" => ((k_here; refine wpAny_is_self (by rfl) ?_))
  k_with "compareOp In str str" => ((k_here; k_dflt (refine' t_in ?q9y ?_; (case q9y => walk_at "mine word"); k_whole)))
  k_with "TTurn ret" => (dsimp only [TTurn])
  k_with "TJoin next" => ((k_here; k_dflt (refine' tjoin ?q9F ?q9N ?q9e ?q9hm ?q9hi ?_; (case q9F => k_asm); (case q9e => exact rfl); (case q9N => k_extra "mine ledger"); (case q9hm => (intro y h1 h2; (repeat (first | (with_reducible exact rfl) | refine ite_off (by assumption) ?_)); (try exact rfl))); (case q9hi => exact rfl))))
  k_with "TTurn brk" => (dsimp only [TTurn])
  k_with "TTurn next" => ((k_here; k_dflt (refine' tturn_next ?q9F ?q9N ?q9e ?q9hm ?q9hi ?_ ?_; (case q9F => k_asm); (case q9e => exact rfl); (case q9N => k_extra "mine ledger"); (case q9hm => (intro y h1 h2; (repeat (first | (with_reducible exact rfl) | refine ite_off (by assumption) ?_)); (try exact rfl))); (case q9hi => exact rfl))))
  k_with "mine sub" => (first | exact fun _ h => h | (refine fun p hp => ?_; repeat (first | exact hp | refine List.Mem.tail _ ?_)))
  trivial
theorem lines_IlN2L_2 : True := by
  k_with "mine word" => (with_reducible exact w_ss)
  k_with "subscriptTail Name Slice ref ref" => ((k_here; (with_reducible show wpAny _ _ (subscriptTail _ (PySem.Expr.Slice none none (some _) _) (Value.ref _) (Value.ref _)) _ _ _); k_dflt (refine' krv_lit ?q9F ?q9N ?q9l ?q9k ?q9e ?_ ?q9s ?q9t ?q9z; (case q9F => k_asm); (case q9N => k_asm); (case q9l => exact News.isList (by k_asm) (by k_mem)); (case q9k => exact IsPart.int _ _); (case q9e => exact e_rev); (case q9s => with_unfolding_all rfl); (case q9t => kmk_pure); (case q9z => exact size_tv (by walk_at "mine len"))); intro D' h' F' N' l1; (try k_lt l1); (try k_sweep)))
  k_with "compareOp NotIn str ref" => ((k_here; k_dflt (refine' t_notintuple ?q9N ?q9m ?q9i ?q9z ?_; (case q9N => k_asm); (case q9m => k_mem); (case q9i => kde_strs); (case q9z => k_extra "mine menu"); k_whole)))
  k_with "binaryOp Add ref ref" => ((k_here; k_dflt (refine' t_addL ?q9F ?q9N ?q9a ?q9b ?q9e ?q9z ?_; (case q9F => k_asm); (case q9N => k_asm); (case q9a => exact News.isList (by k_asm) (by k_mem)); (case q9b => exact News.isList (by k_asm) (by k_mem)); (case q9e => first | exact e_cons | exact e_app | (refine' e_snoc ?q9w; (case q9w => walk_at "mine word"))); (case q9z => walk_at "mine len"); k_whole); intro D' h' F' N' l1; (try k_lt l1); (try k_sweep)))
  k_with "binaryOp Mult ref int" => ((k_here; k_dflt (refine' t_mulL ?q9F ?q9N ?q9m ?q9y ?q9a ?q9b ?_; (case q9F => k_asm); (case q9N => k_asm); (case q9m => k_mem); (case q9y => walk_at "mine word"); (case q9a => walk_at "mine len"); (case q9b => walk_at "mine len"); k_whole); intro D' h' F' N' l1; (try k_lt l1); (try k_sweep)))
  k_with "GTurn next" => ((k_here; k_dflt (refine' gk_next ?q9F ?q9N ?q9a ?q9b ?q9c ?q9d ?q9e ?q9f ?q9g ?q9h ?q9i ?_ ?_; (case q9F => k_asm); (case q9N => k_asm); (case q9a => (intro y h1 h2 h3; (repeat (first | (with_reducible exact rfl) | refine ite_off (by assumption) ?_)); (try exact rfl))); (case q9b => exact rfl); (case q9c => exact rfl); (case q9d => k_mem); (case q9e => k_mem); (case q9f => kcf_all); (case q9g => first | assumption | (refine neN ?_; lia)); (case q9h => assumption); (case q9i => k_mem))))
  k_with "mine endV" => ((refine' ret_of (by assumption) _ (vstr ?_) ?q9e2 ?q9e3 ?q9e4; (case q9e2 => k_asm); (case q9e3 => k_asm); (case q9e4 => walk_at "mine sub")))
  trivial
theorem told_1 {k : Int} {x : List Nat} (h : k = 1) : exprT (runsL x) = handL k x := by subst h; exact expr_eq x
theorem told_2 {k : Int} {x : List Nat} (h : k = 2) : straightL x = handL k x := by subst h; exact straight_eq x
theorem told_4a {k : Int} {x : List Nat} (h : k = 4) (q : x.take 1 = [47]) : x = handL k x := by
  subst h
  have := join_front x
  rw [if_pos q] at this
  exact this
theorem told_4b {k : Int} {x : List Nat} (h : k = 4) (q : ¬ x.take 1 = [47]) : [98, 38, 47] ++ x = handL k x := by
  subst h
  have := join_front x
  rw [if_neg q] at this
  exact this
theorem any_five {k : Int} : ([0, 3, 5, 7, 9].any fun y => y == k) = true ↔ (k = 0 ∨ k = 3 ∨ k = 5 ∨ k = 7 ∨ k = 9) := by
  simp only [List.any_cons, List.any_nil, Bool.or_false, Bool.or_eq_true, beq_iff_eq]
  lia
theorem told_t {k : Int} {x : List Nat} (h : ([0, 3, 5, 7, 9].any fun y => y == k) = true) : escL (tblL k) x = handL k x := by
  rcases any_five.mp h with rfl | rfl | rfl | rfl | rfl
  · rfl
  · rfl
  · rfl
  · rfl
  · exact escD x
theorem tbl_short (k : Int) : tblShort (tblL k) = true := by
  unfold tblL
  (repeat' split) <;> decide
theorem told_6a {k : Int} {x : List Nat} (h : k = 6) (q : rstripL 47 (frontL x) ≠ []) : rstripL 47 (frontL x) = handL k x := by
  subst h
  have := dir_eq x
  unfold dirT at this
  rw [if_neg q] at this
  exact this
theorem told_6b {k : Int} {x : List Nat} (h : k = 6) (q : ¬ rstripL 47 (frontL x) ≠ []) : frontL x = handL k x := by
  subst h
  have := dir_eq x
  unfold dirT at this
  rw [if_pos (Decidable.not_not.mp q)] at this
  exact this
theorem told_8a {k : Int} {x : List Nat} (h : k = 8) (q : baseL x ≠ []) : x ++ [47] ++ [233, 60] = handL k x := by
  subst h
  have := join_back x
  rw [if_pos q] at this
  exact this
theorem told_8b {k : Int} {x : List Nat} (h : k = 8) (q : ¬ baseL x ≠ []) : x ++ [] ++ [233, 60] = handL k x := by
  subst h
  have := join_back x
  rw [if_neg q] at this
  exact this
theorem told_10a {k : Int} {x : List Nat} (h : k = 10) (q : rfindL 46 (baseL x) > ((baseL x).length : Int) - ((lstripL 46 (baseL x)).length : Int)) : frontL x ++ (baseL x).take (rfindL 46 (baseL x)).toNat = handL k x := by
  subst h
  have e : handL 10 x = sextT x := rfl
  rw [e]
  unfold sextT
  rw [if_pos q]
theorem told_10b {k : Int} {x : List Nat} (h : k = 10) (q : ¬ rfindL 46 (baseL x) > ((baseL x).length : Int) - ((lstripL 46 (baseL x)).length : Int)) : x = handL k x := by
  subst h
  have e : handL 10 x = sextT x := rfl
  rw [e]
  unfold sextT
  rw [if_neg q]
theorem told_11 {k : Int} {x : List Nat} (h0 : 0 ≤ k) (h11 : k ≤ 11) (h1 : ¬ k = 1) (h2 : ¬ k = 2) (h4 : ¬ k = 4) (ht : ([0, 3, 5, 7, 9].any fun y => y == k) = false) (h6 : ¬ k = 6) (h8 : ¬ k = 8) (h10 : ¬ k = 10) : baseL x = handL k x := by
  have ht : ¬ ([0, 3, 5, 7, 9].any fun y => y == k) = true := by rw [ht]; decide
  rw [any_five] at ht
  have : k = 11 := by lia
  subst this
  rfl
theorem front_int (x : List Nat) : x.take (((x.length : Int) - ((baseL x).length : Int))).toNat = frontL x := by
  unfold frontL
  congr 1
  lia
theorem lstrip_len (c : Nat) (l : List Nat) : (lstripL c l).length ≤ l.length := by
  unfold lstripL
  exact (List.dropWhile_sublist _).length_le
/-- the table's pairs -/
noncomputable abbrev tabD (tbl : List (Nat × List Nat)) : List (PyData × PyData) := tbl.map fun p => (PyData.str (mkS [p.1]), PyData.str (mkS p.2))
theorem tab_look (tbl : List (Nat × List Nat)) (c : Nat) : lookup (PyData.str (mkS [c])) (tabD tbl) = (tbl.lookup c).map fun r => PyData.str (mkS r) := by
  induction tbl with
  | nil => rfl
  | cons p tbl ih =>
    obtain ⟨a, r⟩ := p
    show (if same (PyData.str (mkS [a])) (PyData.str (mkS [c])) = true then some (PyData.str (mkS r)) else lookup (PyData.str (mkS [c])) (tabD tbl)) = _
    rw [PyProof.V.same_str, List.lookup_cons]
    by_cases h : c = a
    · subst h; simp
    · have h2 : ¬ mkS [a] = mkS [c] := fun e => h (by have := mkS_inj e; simpa using this.symm)
      rw [if_neg (by simpa using h2), ih, beq_false_of_ne h]
section
variable {prog : Program} {w : World} {A : Around} {E : Value → Shared → Prop} {s : Shared} {h₀ : Heap} {L D : Addr} {o : Obj} {tbl : List (Nat × List Nat)} {news : List (Addr × Obj)}
theorem tab_at (N : News h₀ L s.heap news) (hm : (D, o) ∈ news) (lo : (D == sysModules) = false) (T : TabO prog w o tbl) : TabAt (PySem.strKind prog w) PyData.str s.heap D (tabD tbl) := by
  obtain ⟨kvs, hd, hf⟩ := T
  exact TabAt.ofObj lo (N _ hm).1 hd hf
theorem t_getM {pl : Sem Bool} {Q : Value × List Value → Shared → Prop} (N : News h₀ L s.heap news) (hm : (D, o) ∈ news) (lo : (D == sysModules) = false) (T : TabO prog w o tbl) (h : Q (.builtin "dict.get", [.ref D]) s) :
    wpAny (model prog w) A (getMethod (.ref D) (Str.ofString "get") pl) Q E s := getMethod_tab_any (by rfl) (tab_at N hm lo T) h
theorem t_get {c : Nat} {t u : Tok} {Q : Value → Shared → Prop} (N : News h₀ L s.heap news) (hm : (D, o) ∈ news) (lo : (D == sysModules) = false) (T : TabO prog w o tbl)
    (h : ∀ t' k, Q (.str (mkS ((tbl.lookup c).getD [c])) t') { s with toks := k }) : wpAny (model prog w) A (call (.builtin "dict.get") [.ref D, .str (mkS [c]) t, .str (mkS [c]) u]) Q E s := by
  refine call_get2_strTab (tab_at N hm lo T) (PyProof.V.Flat.str _ _) fun v hv => ?_
  rw [tab_look] at hv
  have e : (Option.map (fun r => PyData.str (mkS r)) (tbl.lookup c)).getD (PyData.str (mkS [c])) = PyData.str (mkS ((tbl.lookup c).getD [c])) := by
    cases tbl.lookup c <;> rfl
  rw [e] at hv
  obtain ⟨t', rfl⟩ := PyProof.V.Flat.str_inv hv
  exact h _ _
theorem use_ctD {p : Program} {loose : List Str} {mean : ExcName → Option Value} {mg mb : Str → Option Value} {f : Addr} {d u : Nat} {vs : List Value} {dp un : Nat} {gd : Option (List Code)} {cn : Str} {cs : Scope} {a : Addr} {ccd : Value} {cl : List (Str × Addr)} {outer : List Env} {A₀ : Around} {base : Heap} {m : Str → Option Value} {Q : Value → Shared → Prop}
    (C : CtD prog w p loose mean mg mb f d u vs tbl) (B : Below A₀ base outer h₀) (F : Fr h₀ L s.heap m) (X : (K w.params).In h₀) (N : News h₀ L s.heap news) (T : Top p loose mean mg mb h₀) (hk : cs.kind = .function)
    (hd : dp + d < recursionLimit) (hu : un + u < cLine) (hret : RetD prog w h₀ L m news s Q tbl) :
    wpAny (model prog w) (ktrTop dp un gd cn cs L a ccd cl outer) (call (.ref f) vs) Q E s := C _ _ _ _ _ _ _ _ _ _ _ _ _ _ _ _ _ _ B F X N T hk hd hu hret
theorem t_lastB {ps : List (List Nat × Tok)} {x : List Nat} {n : Nat} {t : Tok} {value slice : Expr} {Q : Value → Shared → Prop} (N : News h₀ L s.heap news) (hm : (D, lstT ps n) ∈ news) (e : ps.map (·.1) = splitL 47 x) (hx : x.length ≤ 100000)
    (h : ∀ t', Q (.str (mkS (baseL x)) t') s) (hs : subscripted slice false (.ref D) (.int (-1) t) = operate [.ref D, .int (-1) t] (getItem (.ref D) (.int (-1) t))) :
    wpAny (model prog w) A (subscriptTail value slice (.ref D) (.int (-1) t)) Q E s := by
  have hb := last_base x
  refine t_last N hm ?_ (split_len e hx) ?_ hs
  · rintro rfl
    rw [← e] at hb
    cases hb
  · rintro q p rfl
    rw [← e, List.map_append] at hb
    have : p.1 = baseL x := by simpa using hb
    rw [this]
    exact h _
end
theorem ne_succ {news : List (Addr × Obj)} {L : Addr} (h : ∀ p ∈ news, p.1 < L) : ∀ p ∈ news, p.1 ≠ L + 1 := fun p hp => Nat.ne_of_lt (Nat.lt_succ_of_lt (h p hp))
local macro_rules | `(tactic| k_all) => `(tactic| first | assumption | exact allNe_of_lt (by assumption) | exact allNe_of_and (by assumption) | exact ne_succ (by assumption))
theorem w_bampS : Str.ofString "b&/" = mkS [98, 38, 47] := by decide +kernel
theorem lines_IlN2_1 : True := by
  k_with "mine word" => (first | with_reducible exact w_bampS | with_reducible exact w_elt)
  k_with "subscriptTail Name UnaryOp ref int" => ((k_here; k_dflt (refine' t_lastB ?q9N ?q9m ?q9e ?q9x ?_ ?q9s; (case q9N => k_asm); (case q9m => k_mem); (case q9e => assumption); (case q9x => assumption); (case q9s => with_unfolding_all rfl); k_whole); intro t'))
  k_with "call ref" => ((k_here; k_extra "mine calls"))
  k_with "eval ListComp" => ((k_here; k_extra "mine comp"))
  k_with "mine enterC" => ((unfold Ct; intro dp un gd cn cs a ccd cl outer A₀ base h₀ L m news s Q E B F X N T hk hd hu hret; refine wpAny_call ?_; k_dflt (refine' code_defC ?q9k1 ?q9k2 ?q9k3 ?q9k4 ?q9k5 ?q9kA ?q9kF ?q9kK ?q9k6 ?q9k7 ?q9k8 ?q9k9 ?q9kB ?q9kD ?_ ?q9c2 ?q9c3 ?q9c4; (case q9kA => exact rfl); (case q9kF => exact rfl); (case q9kK => assumption); (case q9k1 => k_asm); (case q9k2 => k_asm); (case q9k3 => k_asm); (case q9k4 => k_asm); (case q9k5 => k_asm); (case q9k6 => k_is); (case q9k7 => k_is); (case q9k8 => ktr_room); (case q9k9 => exact BindsTo.of_eq rfl); (case q9kB => exact rfl); (case q9kD => decide +kernel); (case q9c2 => exact rfl); (case q9c3 => exact rfl); (case q9c4 => exact rfl); k_whole); intro g' L' h' tk' cells' FG' F' N' Y' B' X' T' l1; (try k_lt l1); k_cells Y'; (try simp only [List.cons_append, List.nil_append] at N'); (try dsimp only); (try k_lift B'); (try k_fold)))
  k_with "getMethod ref" => ((k_here; k_dflt (refine' t_getM ?q9N ?q9m ?q9l ?q9T ?_; (case q9N => k_asm); (case q9m => k_mem); (case q9l => assumption); (case q9T => assumption); k_whole)))
  k_with "call builtin:dict.get" => ((k_here; k_dflt (refine' t_get ?q9N ?q9m ?q9l ?q9T ?_; (case q9N => k_asm); (case q9m => k_mem); (case q9l => assumption); (case q9T => assumption); k_whole); intro t' k'))
  k_with "CompEnd" => ((k_dflt (refine' PyProof.Rows.LCg.CompEnd.intro ?q9F ?q9N _ (fun p hp => hp) ?q9o ?q9S ?q9r; (case q9F => k_asm); (case q9N => k_asm); (case q9o => assumption); (case q9S => exact True.intro); (case q9r => exact txel rfl))))
  k_with "call builtin:str.join" => ((k_here; k_dflt (refine' t_joinE ?q9N ?q9m ?q9y ?q9e ?q9l ?_; (case q9N => k_asm); (case q9m => k_mem); (case q9y => walk_at "mine word"); (case q9e => assumption); (case q9l => assumption); k_whole); intro t' k'))
  k_with "SrcS" => ((k_here; k_extra "mine src"))
  trivial
set_option maxHeartbeats 4000000 in
theorem c_told (prog : Program) (w : World) (p : Program) (loose : List Str) (mean : ExcName → Option Value) (mg mb : Str → Option Value) (k : Int) (x : List Nat) (u t : Tok) (h0 : 0 ≤ k) (h1 : k ≤ 11) (hx : x.length ≤ 100000) (hy : 45 ∉ x) :
    Ct prog w p loose mean mg mb 302 2 40 [.int k u, .str (mkS x) t] (fun t => .str (mkS (handL k x)) t) := by
  have hb := base_len x
  have hl := lstrip_len 46 (baseL x)
  have hbig : (x.flatMap fun c => ((tblL k).lookup c).getD [c]).length ≤ 10000000 := by
    have := esc_le (tbl_short k) x
    unfold escL at this
    lia
  k_with "mine len" => exact Nat.le_trans (rstrip_len _ _) (by rw [List.length_take]; lia)
  k_with "mine calls" => refine Stop.go ?_
  k_with "mine comp" => k_dflt (refine ListComp_S (F₀ := by k_asm) (by with_unfolding_all rfl) (by decide) (by rfl) (by decide) (by rfl) ?_)
  k_with "mine src" => refine Stop.go ?_
  walk_at "mine enterC"
  k_steps
  · refine Stop.of ?_
    refine use_ct (c_expr _ _ _ _ _ _ _ _ _ hx hy) (by assumption) (by k_asm) (by assumption) (by k_asm) (by assumption) rfl (by ktr_room) (by ktr_units) ?_
    intro t9 h9 tk9 F9 N9
    k_steps
    walk_at "mine endS"
    exact told_1 (by assumption)
  · refine Stop.of ?_
    refine use_ct (c_straight _ _ _ _ _ _ _ _ _ hx) (by assumption) (by k_asm) (by assumption) (by k_asm) (by assumption) rfl (by ktr_room) (by ktr_units) ?_
    intro t9 h9 tk9 F9 N9
    k_steps
    walk_at "mine endS"
    exact told_2 (by assumption)
  · walk_at "mine endS"
    exact told_4a (by assumption) (by assumption)
  · walk_at "mine endS"
    exact told_4b (by assumption) (by assumption)
  · refine Stop.of ?_
    refine use_ctD (c_table _ _ _ _ _ _ _ _ _) (by assumption) (by k_asm) (by assumption) (by k_asm) (by assumption) rfl (by ktr_room) (by ktr_units) ?_
    intro D9 o9 h9 tk9 lo9 T9 F9 N9 l9
    k_lt l9
    k_steps
    refine Stop.of ?_
    refine src_textF (fun c => ((tblL k).lookup c).getD [c]) 10000000 rfl (by k_asm) (by k_asm) (by lia) hbig ?_ ?_
    · intro c9 u9 I9 oI9 C9 oC9 D8 m9 ys9 h8 tk8 E9 hc9 hC9 hx9 F8 N8 off9 ne9
      k_steps
    · intro D8 h8 tk8 ts9 e9 hb9 F8 N8 o19
      (try simp only [PyProof.Rows.LCg.Off1, and_true] at o19)
      k_steps
      walk_at "mine endS"
      exact told_t (by assumption)
  · walk_at "mine endS"
    rw [front_int] at *
    exact told_6a (by assumption) (by assumption)
  · walk_at "mine endS"
    rw [front_int] at *
    exact told_6b (by assumption) (by assumption)
  · walk_at "mine endS"
    exact told_8a (by assumption) (by assumption)
  · walk_at "mine endS"
    exact told_8b (by assumption) (by assumption)
  · walk_at "mine endS"
    rw [front_int]
    subst_vars
    exact told_10a rfl (by assumption)
  · walk_at "mine endS"
    subst_vars
    exact told_10b rfl (by assumption)
  · walk_at "mine endS"
    exact told_11 h0 h1 (by assumption) (by assumption) (by assumption) (by assumption) (by assumption) (by assumption) (by assumption)

end Mine
end -- IlN2
section -- IlN3
open PySem PySem.W PyProof.Rows PySem.Calls PySem.Spec
namespace Mine
theorem lines_IlN3L_1 : True := by
  k_with_none
  k_with "execs cons" => ((k_here; (try k_gentoks); (with_reducible refine wpAny_execs_cons ?_); (try dsimp only); k_fold))
  k_with "mine sub" => (first | exact fun _ h => h | exact fun _ h => .tail _ h | exact fun _ h => .tail _ (.tail _ h) | exact fun _ h => .tail _ (.tail _ (.tail _ h)) | exact fun _ h => .tail _ (.tail _ (.tail _ (.tail _ h))) | exact fun _ h => .tail _ (.tail _ (.tail _ (.tail _ (.tail _ h)))))
  k_with "mine eq" => (first | rfl | (subst_vars; rfl))
  k_with "mine end" => ((refine' ret_of (by assumption) _ ?q9e1 ?q9e2 ?q9e3 ?q9e4; (case q9e2 => k_asm); (case q9e3 => k_asm); (case q9e4 => walk_at "mine sub"); (case q9e1 => walk_at "mine eq"); (all_goals exact (0 : Nat))))
  k_with "mine endS" => ((refine' ret_of (by assumption) _ (veq ?_) ?q9e2 ?q9e3 ?q9e4; (case q9e2 => k_asm); (case q9e3 => k_asm); (case q9e4 => walk_at "mine sub")))
  k_with "mine lt" => (first | assumption | exact ktn_ltOf (by assumption))
  k_with "mine endT3" => ((refine' ret_ofT (by assumption) ?q9F ?q9N ?q9l ?q9s [(_, _), (_, _), (_, _)] ?q9o ?_; (case q9F => k_asm); (case q9N => k_asm); (case q9l => walk_at "mine lt"); (case q9s => walk_at "mine sub"); (case q9o => ((try simp only [w_nil, w_slash]); rfl))))
  k_with "mine endTT" => ((refine' ret_ofT (by assumption) ?q9F ?q9N ?q9l ?q9s _ ?q9o ?q9e; (case q9F => k_asm); (case q9N => k_asm); (case q9l => walk_at "mine lt"); (case q9s => walk_at "mine sub"); (case q9o => exact rfl); (case q9e => assumption)))
  k_with "mine endT2" => ((refine' ret_ofT (by assumption) ?q9F ?q9N ?q9l ?q9s [(_, _), (_, _)] ?q9o ?_; (case q9F => k_asm); (case q9N => k_asm); (case q9l => walk_at "mine lt"); (case q9s => walk_at "mine sub"); (case q9o => ((try simp only [w_nil, w_slash]); rfl))))
  k_with "mine enterT" => ((unfold CtT; intro dp un gd cn cs a ccd cl outer A₀ base h₀ L m news s Q E B F X N T hk hd hu hret; refine wpAny_call ?_; k_dflt cell_enter))
  k_with "mine enterR" => ((unfold Ct; intro dp un gd cn cs a ccd cl outer A₀ base h₀ L m news s Q E B F X N T hk hd hu hret; refine wpAny_call ?_; k_dflt (refine' kp_rest ?q9k1 ?q9k2 ?q9k3 ?q9k4 ?q9k5 ?q9kA ?q9kF ?q9kK ?q9k6 ?q9k7 ?q9k8 ?q9kV ?q9kP ?q9kG ?q9kB ?_ ?q9c2 ?q9c3 ?q9c4 ?q9c5; (case q9kA => exact rfl); (case q9kF => exact rfl); (case q9kK => assumption); (case q9k1 => k_asm); (case q9k2 => k_asm); (case q9k3 => k_asm); (case q9k4 => k_asm); (case q9k5 => k_asm); (case q9k6 => k_is); (case q9k7 => k_is); (case q9k8 => ktr_room); (case q9kV => kl_lit); (case q9kP => exact rfl); (case q9kG => exact fun _ => rfl); (case q9kB => exact fun _ => locs rfl); (case q9c5 => decide); (case q9c2 => exact rfl); (case q9c3 => exact rfl); (case q9c4 => exact rfl); k_whole); intro D' g' L' h' l1 FG' F' N' B' X' T'; (try k_lt l1); (try dsimp only); (try k_lift B'); (try k_fold)))
  k_with "mine enter" => ((unfold Ct; intro dp un gd cn cs a ccd cl outer A₀ base h₀ L m news s Q E B F X N T hk hd hu hret; refine wpAny_call ?_; k_dflt cell_enter))
  k_with "mine use" => (((case q9k1 => k_asm); (case q9k2 => k_asm); (case q9k3 => k_asm); (case q9k4 => k_asm); (case q9k5 => k_asm); (case q9kK => first | exact rfl | assumption); (case q9kd => ktr_room); (case q9ku => ktr_units); intro t9 h9 tk9 F9 N9; (try dsimp only); (try k_fold); (try k_sweep)))
  k_with "mine useT" => (((case q9k1 => k_asm); (case q9k2 => k_asm); (case q9k3 => k_asm); (case q9k4 => k_asm); (case q9k5 => k_asm); (case q9kK => first | exact rfl | assumption); (case q9kd => ktr_room); (case q9ku => ktr_units); intro D9 ps9 h9 tk9 e9 F9 N9 l9; (try k_lt l9); (try dsimp only); (try k_fold); (try k_sweep)))
  k_with "mine word" => (first | with_reducible exact w_slash | with_reducible exact w_dot | with_reducible exact w_dotdot | with_reducible exact w_nil | with_reducible rfl)
  k_with "mine len" => (first | assumption | lia | (simp only [List.length_take, List.length_drop, List.length_append, List.length_replicate, List.length_cons, List.length_nil]; lia))
  k_with "call builtin:issubclass" => ((k_here; k_dflt (refine' k_issub ?q9k1 ?q9k2 ?_; (case q9k1 => k_asm); (case q9k2 => k_mem); k_whole)))
  k_with "call builtin:str.rfind" => ((k_here; k_dflt (refine' t_rfind ?q9y ?_; (case q9y => walk_at "mine word"); k_whole); intro r' hr' h1' h2'))
  k_with "subscriptTail Name Slice str ref" => ((k_here; (with_reducible show wpAny _ _ (subscriptTail _ (Expr.Slice (some _) none none _) (Value.str (mkS _) _) _) _ _ _); k_dflt (refine' t_slice_from (s := ⟨_, _, _, _, _⟩) ?q9F ?q9N ?q9x ?q9i ?_ ?q9hs ?q9ht; (case q9F => k_asm); (case q9N => k_asm); (case q9x => walk_at "mine len"); (case q9i => walk_at "mine len"); (case q9hs => with_unfolding_all rfl); (case q9ht => intro _; with_unfolding_all rfl); k_whole); intro h' t' k' F' N'; (try k_sweep)))
  k_with "subscriptTail Name Slice str ref" => ((k_here; (with_reducible show wpAny _ _ (subscriptTail _ (Expr.Slice none (some _) none _) (Value.str (mkS _) _) _) _ _ _); k_dflt (refine' t_slice_to (s := ⟨_, _, _, _, _⟩) ?q9F ?q9N ?q9x ?q9i ?_ ?q9hs ?q9ht; (case q9F => k_asm); (case q9N => k_asm); (case q9x => walk_at "mine len"); (case q9i => walk_at "mine len"); (case q9hs => with_unfolding_all rfl); (case q9ht => intro _; with_unfolding_all rfl); k_whole); intro h' t' k' F' N'; (try k_sweep)))
  k_with "subscriptTail Name Slice str ref" => ((k_here; (with_reducible show wpAny _ _ (subscriptTail _ (Expr.Slice (some _) (some _) none _) (Value.str (mkS _) _) _) _ _ _); k_dflt (refine' t_slice_mid (s := ⟨_, _, _, _, _⟩) ?q9F ?q9N ?q9x ?q9i ?q9j ?_ ?q9hs ?q9ht; (case q9F => k_asm); (case q9N => k_asm); (case q9x => walk_at "mine len"); (case q9i => walk_at "mine len"); (case q9j => walk_at "mine len"); (case q9hs => with_unfolding_all rfl); (case q9ht => intro _; with_unfolding_all rfl); k_whole); intro h' t' k' F' N'; (try k_sweep)))
  k_with "truthy str" => ((k_here; (with_reducible show wpAny _ _ (PySem.truthy (Value.str (mkS _) _)) _ _ _); k_dflt (refine' t_truthy ?q9x ?_; (case q9x => walk_at "mine len"); k_whole); intro k'))
  k_with "call builtin:len" => ((k_here; (with_reducible show wpAny _ _ (call (Value.builtin "len") [Value.str (mkS _) _]) _ _ _); k_dflt (refine' t_len ?q9x ?_; (case q9x => walk_at "mine len"); k_whole); intro k'))
  k_with "compareOp NotEq str str" => ((k_here; (with_reducible show wpAny _ _ (compareOp CmpOp.NotEq (Value.str (mkS _) _) _) _ _ _); k_dflt (refine' t_ne ?q9y ?_; (case q9y => walk_at "mine word"); k_whole)))
  k_with "compareOp Eq str str" => ((k_here; (with_reducible show wpAny _ _ (compareOp CmpOp.Eq (Value.str (mkS _) _) _) _ _ _); k_dflt (refine' t_eq ?q9y ?_; (case q9y => walk_at "mine word"); k_whole)))
  k_with "binaryOp Add str str" => ((k_here; k_dflt (refine' t_add ?q9x ?q9y ?q9l ?_; (case q9x => walk_at "mine word"); (case q9y => walk_at "mine word"); (case q9l => walk_at "mine len"); k_whole); intro t' k'))
  k_with "binaryOp Mult str int" => ((k_here; k_dflt (refine' t_mul ?q9y ?q9a ?q9b ?_; (case q9y => walk_at "mine word"); (case q9a => walk_at "mine len"); (case q9b => walk_at "mine len"); k_whole); intro t' k'))
  k_with "call builtin:str.rstrip" => ((k_here; k_dflt (refine' t_rstrip ?q9y ?q9x ?_; (case q9y => walk_at "mine word"); (case q9x => walk_at "mine len"); k_whole); intro t' k'))
  k_with "call builtin:str.lstrip" => ((k_here; k_dflt (refine' t_lstrip ?q9y ?q9x ?_; (case q9y => walk_at "mine word"); (case q9x => walk_at "mine len"); k_whole); intro t' k'))
  k_with "call builtin:str.startswith" => ((k_here; k_dflt (refine' t_starts ?q9y ?_; (case q9y => walk_at "mine word"); k_whole)))
  k_with "call builtin:str.endswith" => ((k_here; k_dflt (refine' t_ends ?q9y ?_; (case q9y => walk_at "mine word"); k_whole)))
  k_with "call builtin:str.split" => ((k_here; k_dflt (refine' t_split ?q9F ?q9N ?q9y ?q9x ?_; (case q9F => k_asm); (case q9N => k_asm); (case q9y => walk_at "mine word"); (case q9x => walk_at "mine len"); k_whole); intro ps' h' k' e' F' N'; (try k_sweep)))
  k_with "call builtin:str.join" => ((k_here; k_dflt (refine' t_join ?q9N ?q9m ?q9y ?q9l ?_; (case q9N => k_asm); (case q9m => k_mem); (case q9y => walk_at "mine word"); (case q9l => walk_at "mine len"); k_whole); intro t' k'))
  k_with "subscriptTail Name Name str int" => ((k_here; (with_reducible show wpAny _ _ (subscriptTail _ _ (Value.str (mkS _) _) _) _ _ _); k_dflt (refine' t_item ?q9x ?q9i ?q9j ?_ ?q9hs ?q9ht; (case q9x => walk_at "mine len"); (case q9i => walk_at "mine len"); (case q9j => walk_at "mine len"); (case q9hs => with_unfolding_all rfl); (case q9ht => intro _; with_unfolding_all rfl); k_whole); intro c' hc'))
  k_with "exec While Compare cons nil" => ((k_here; k_extra "mine while"))
  k_with "IntTurn ret" => (dsimp only [IntTurn])
  k_with "IntTurn next" => ((refine' int_turn_next ?q9F ?q9N ?q9m ?q9P; (case q9F => k_asm); (case q9N => k_asm); (case q9m => k_extra "mine measure"); (case q9P => k_extra "mine state")))
  k_with "exec If" => ((k_here; k_extra "mine if"))
  k_with "exec For Name Name cons nil" => ((k_here; k_extra "mine for"))
  k_with "pyIter ref" => ((k_here; k_extra "mine iter"))
  k_with "LoopStep3 next" => ((k_extra "mine step"))
  k_with "inplaceOp Add str str" => ((k_here; k_dflt (refine' t_iadd ?q9x ?q9y ?q9l ?_; (case q9x => walk_at "mine word"); (case q9y => walk_at "mine word"); (case q9l => walk_at "mine len"); k_whole); intro t' k'))
  k_with "TurnEnd next" => ((refine' acc_next ?q9F ?q9N ?q9m ?q9hlt ?_; (case q9F => k_asm); (case q9N => k_asm); (case q9m => k_mem); (case q9hlt => assumption)))
  k_with "TurnEnd cont" => ((refine' acc_cont ?q9F ?q9N ?q9m ?q9hlt ?_; (case q9F => k_asm); (case q9N => k_asm); (case q9m => k_mem); (case q9hlt => assumption)))
  k_with "truthy ref" => ((k_here; k_dflt (refine' t_truthyL ?q9N ?q9m ?q9z ?_; (case q9N => k_asm); (case q9m => k_mem); (case q9z => walk_at "mine len"); k_whole); intro k'))
  k_with "subscriptTail Name UnaryOp ref int" => ((k_here; k_dflt (refine' t_last ?q9N ?q9m ?q9e ?q9z ?_ ?q9s; (case q9N => k_asm); (case q9m => k_mem); (case q9e => first | assumption | (simp_all; done)); (case q9z => walk_at "mine len"); (case q9s => with_unfolding_all rfl); k_whole); intro q' p' e'))
  k_with "call builtin:list.append" => ((k_here; k_dflt (refine' t_append ?q9F ?q9N ?q9y ?q9U ?q9z ?_; (case q9F => k_asm); (case q9N => k_asm); (case q9y => walk_at "mine word"); (case q9U => k_upd); (case q9z => walk_at "mine len"); k_whole); intro h' F' N'; (try k_sweep)))
  k_with "call builtin:list.pop" => ((k_here; k_dflt (refine' t_pop ?q9F ?q9N ?q9e ?q9U ?q9z ?_; (case q9F => k_asm); (case q9N => k_asm); (case q9e => first | assumption | (simp_all; done)); (case q9U => k_upd); (case q9z => walk_at "mine len"); k_whole); intro h' v' F' N'; (try k_sweep)))
  k_with "truthy str" => ((k_here; (with_reducible show wpAny _ _ (PySem.truthy (Value.str (mkS [_]) _)) _ _ _); k_dflt (refine t_truthy1 ?_); intro k'))
  k_with "formatField str" => ((k_here; k_dflt (refine' t_field ?q9x ?_; (case q9x => walk_at "mine len"); k_whole); intro t' k'))
  k_with "exec If" => ((k_here; refine wpAny_If ?_))
  k_with "mine word" => (first | with_reducible exact w_slash | with_reducible exact w_dot | with_reducible exact w_dotdot | with_reducible exact w_nil | with_reducible exact w_star | with_reducible exact w_quest | with_reducible exact w_open | with_reducible exact w_bang | with_reducible exact w_shut | with_reducible exact w_hyph | with_reducible exact w_bsl | with_reducible exact w_bsl2 | with_reducible exact w_never | with_reducible exact w_hat | with_reducible exact w_bopen | with_reducible exact w_dots | with_reducible exact w_lazy | with_reducible exact w_par | with_reducible exact w_pre | with_reducible exact w_end | with_reducible rfl)
  k_with "getAttr ref true" => ((k_here; k_dflt (refine' w_bound ?q9F ?q9N ?q9m ?_; (case q9F => k_asm); (case q9N => k_asm); (case q9m => k_mem); k_whole); intro b' h' k' F' N' l1; (try k_lt l1)))
  k_with "getAttr ref" => ((k_here; k_dflt (refine' w_bound ?q9F ?q9N ?q9m ?_; (case q9F => k_asm); (case q9N => k_asm); (case q9m => k_mem); k_whole); intro b' h' k' F' N' l1; (try k_lt l1)))
  k_with "exec While BoolOp cons nil" => ((k_here; k_extra "mine while"))
  k_with "StandsA" => (exact standsA (by k_asm) (by k_mem))
  k_with "callWith ref" => ((k_here; k_dflt (refine' callWith_boundA ?q9N ?q9m ?_; (case q9N => k_asm); (case q9m => k_mem); k_whole)))
  k_with "And" => (((with_reducible show StandsA _ _ _ ∧ _); refine ⟨standsA (by k_asm) (by k_mem), ?_⟩; try dsimp only [List.nil_append, List.cons_append]))
  k_with "compareOp NotIn str str" => ((k_here; k_dflt (refine' t_notin' ?q9y ?q9c ?_; (case q9y => walk_at "mine word"); (case q9c => k_extra "mine notin"); k_whole)))
  k_with "call builtin:str.replace" => ((k_here; k_dflt (refine' t_replace ?q9hu ?q9hv ?q9huv ?q9y ?q9z ?q9r ?q9yz ?q9x ?_; (case q9y => walk_at "mine word"); (case q9z => walk_at "mine word"); (case q9hu => exact Nat.succ_ne_zero _); (case q9hv => exact Nat.succ_ne_zero _); (case q9huv => exact Nat.ne_of_lt (Nat.lt_succ_self _)); (case q9r => decide); (case q9yz => decide +kernel); (case q9x => walk_at "mine len"); k_whole); intro t' k'))
  k_with "joinParts" => ((k_here; k_dflt (first
  | (refine' t_jp_cons ?q9o ?_; (case q9o => first | exact w_nil | with_reducible rfl | rfl); k_whole)
  | (refine' t_jp_nil ?q9x ?_; (case q9x => walk_at "mine len"); k_whole; intro t' k'))))
  k_with "Exists" => ((k_dflt (refine' ⟨_, ?q9y, ?q9l, ?_⟩; (case q9y => walk_at "mine word"); (case q9l => walk_at "mine len"); k_whole)))
  k_with "compareOp IsNot str ref" => ((k_here; refine wpAny_isNot_other (by rfl) (by intro x; cases x) ?_))
  k_with "compareOp IsNot ref ref" => ((k_here; refine wpAny_isNot_self (by rfl) ?_))
  k_with "subscriptTail Name Constant str int" => ((k_here; (with_reducible show wpAny _ _ (subscriptTail _ _ (Value.str (mkS _) _) _) _ _ _); k_dflt (refine' t_item ?q9x ?q9i ?q9j ?_ ?q9hs ?q9ht; (case q9x => walk_at "mine len"); (case q9i => walk_at "mine len"); (case q9j => k_extra "mine first"); (case q9hs => with_unfolding_all rfl); (case q9ht => intro _; with_unfolding_all rfl); k_whole); intro c' hc'))
  k_with "execs cons" => ((k_here; k_extra "mine toks"))
  k_with "compareOp Is str ref" => ((k_here; refine wpAny_is_other (by rfl) (by intro x; cases x) ?_))
  k_with "compareOp Is ref ref" => ((k_here; refine wpAny_is_self (by rfl) ?_))
  k_with "compareOp In str str" => ((k_here; k_dflt (refine' t_in ?q9y ?_; (case q9y => walk_at "mine word"); k_whole)))
  k_with "TTurn ret" => (dsimp only [TTurn])
  k_with "TJoin next" => ((k_here; k_dflt (refine' tjoin ?q9F ?q9N ?q9e ?q9hm ?q9hi ?_; (case q9F => k_asm); (case q9e => exact rfl); (case q9N => k_extra "mine ledger"); (case q9hm => (intro y h1 h2; (repeat (first | (with_reducible exact rfl) | refine ite_off (by assumption) ?_)); (try exact rfl))); (case q9hi => exact rfl))))
  k_with "TTurn brk" => (dsimp only [TTurn])
  k_with "TTurn next" => ((k_here; k_dflt (refine' tturn_next ?q9F ?q9N ?q9e ?q9hm ?q9hi ?_ ?_; (case q9F => k_asm); (case q9e => exact rfl); (case q9N => k_extra "mine ledger"); (case q9hm => (intro y h1 h2; (repeat (first | (with_reducible exact rfl) | refine ite_off (by assumption) ?_)); (try exact rfl))); (case q9hi => exact rfl))))
  k_with "mine sub" => (first | exact fun _ h => h | (refine fun p hp => ?_; repeat (first | exact hp | refine List.Mem.tail _ ?_)))
  trivial
/-! a for over a list, the iterator's fields told -/
section
variable {prog : Program} {w : World} {A : Around} {E : Value → Shared → Prop} {s : Shared} {env : Env} {h₀ : Heap} {x : Str} {body : List Stmt} {Q : Flow → Shared → Prop}
noncomputable abbrev itF (ax : Addr) (i : Nat) : Data := .fields #[.ref ax, .int i 0]
theorem for_row {ax : Addr} {lo : Obj} {vs : List Value} {n : Nat} {m₀ : Str → Option Value} {news : List (Addr × Obj)} (St : List Value → (Str → Option Value) → List (Addr × Obj) → Prop)
    (hh : A.handled = none) (F : Fr h₀ env.locals s.heap m₀) (N : News h₀ env.locals s.heap news) (hm : (ax, lo) ∈ news) (hc : lo.cls = .type "list") (hd : lo.data = .seq vs.toArray n)
    (h0 : St vs m₀ news)
    (turn : ∀ v r m₁ n₁ it i h tk, St (v :: r) m₁ n₁ → (ax, lo) ∈ n₁ → (∀ q ∈ news, q.1 < s.heap.objs.size) → (∀ q ∈ n₁, q.1 ≠ s.heap.objs.size) → it.data = itF ax i → Fr h₀ env.locals h (upd m₁ x (some v)) → News h₀ env.locals h ((s.heap.objs.size, it) :: n₁) →
      wpAny (model prog w) A (execs body env) (GTurn h₀ env.locals (ax, lo) s.heap.objs.size it (St r) { s with heap := h, toks := tk } Q) E { s with heap := h, toks := tk })
    (done : ∀ m₁ n₁ h tk, St [] m₁ n₁ → Fr h₀ env.locals h m₁ → News h₀ env.locals h n₁ → Q .next { s with heap := h, toks := tk }) :
    wpAny (model prog w) A (pyIter (.ref ax)) (fun it s₂ => LoopAtV prog w A h₀ env x body Q E it s₂) E s := by
  have hax := N _ hm
  have hl : s.heap.IsList ax vs.toArray := ⟨lo, hax.1, hc, n, hd⟩
  have hlt : ∀ q ∈ news, q.1 < s.heap.objs.size := fun q hq => Heap.lt_size (N q hq).1
  have hne : ax ≠ s.heap.objs.size := Nat.ne_of_lt (hlt _ hm)
  have W := Walks.list (prog := prog) (w := w) hh s.heap.objs.size ax hne vs.toArray
  rw [List.size_toArray] at W
  refine wpAny_pyIter_list hl ?_
  refine ⟨s.heap.objs.size, [s.heap.objs.size, ax], [s.heap.objs.size], vs.length, _, _, m₀, news, fun i m₁ n₁ => (ax, lo) ∈ n₁ ∧ St (vs.drop i) m₁ n₁, rfl, W, ?_, ?_, ?_, ?_, F.push _, ?_, ⟨hm, h0⟩, ?_, ?_⟩
  · intro q
    rcases List.mem_cons.mp q with q | q
    · have := F.ns.lt; rw [q] at this; exact Nat.lt_irrefl _ this
    · exact hax.2.1 (List.mem_singleton.mp q).symm
  · intro b hb; rw [List.mem_singleton.mp hb]; exact next_is_new F
  · intro p hp q; have := hlt p hp; rw [List.mem_singleton.mp q] at this; exact Nat.lt_irrefl _ this
  · exact ⟨⟨_, Heap.get?_push_size _ rfl, rfl, rfl⟩, hl.at fun o e => Heap.get?_push_of_some _ e⟩
  · exact fun p hp => ⟨Heap.get?_push_of_some _ (N p hp).1, (N p hp).2⟩
  · rintro i v m₁ n₁ s₁ own ⟨hh', tk', rfl⟩ hi hv ⟨hmem, hSt⟩ hoff hown hget hall hst F₁ N₁
    obtain ⟨it, hit, _, hid⟩ := hst.1
    have hit : hh'.get? s.heap.objs.size = some it := hit
    have hget : ∀ p ∈ own, hh'.get? p.1 = some p.2 := hget
    have N₁ : News h₀ env.locals hh' (own ++ n₁) := N₁
    have hv' : vs[i]? = some v := by simpa using hv
    have hdrop : vs.drop i = v :: vs.drop (i + 1) := by
      rw [List.drop_eq_getElem_cons hi]
      congr 1
      rw [List.getElem?_eq_getElem hi] at hv'
      exact Option.some.inj hv'
    rw [hdrop] at hSt
    have hI := hall _ (.head _) (next_is_new F) _ hit
    have off : ∀ q ∈ n₁, q.1 ≠ s.heap.objs.size := fun q hq e => hoff q hq (List.mem_singleton.mpr e)
    refine wpAny_mono (turn v _ m₁ n₁ it (i + 1) hh' tk' hSt hmem hlt off hid F₁ fun p hp => ?_) (fun f s₂ hq => ?_) fun _ _ e => e
    · rcases List.mem_cons.mp hp with rfl | hp
      · exact N₁ _ (List.mem_append_left _ hI)
      · exact N₁ _ (List.mem_append_right _ hp)
    · have conv : UnrEnd h₀ env.locals { s with heap := hh', toks := tk' } s.heap.objs.size it (fun m' n' => (ax, lo) ∈ n' ∧ St (vs.drop (i + 1)) m' n') s₂ →
          LoopStepU h₀ env.locals [s.heap.objs.size] own (fun m₁ n₁ => (ax, lo) ∈ n₁ ∧ St (vs.drop (i + 1)) m₁ n₁) { s with heap := hh', toks := tk' } .next s₂ := by
        rintro ⟨h', tk, m', n', e, F', N', ho, hm', hS⟩
        subst e
        refine .intro F' (fun p hp => ?_) (fun p hp q => ho p hp (List.mem_singleton.mp q)) ⟨hm', hS⟩
        rcases List.mem_append.mp hp with hp | hp
        · have g1 := hget p hp
          rcases List.mem_cons.mp (hown p hp) with e | e
          · rw [e, hit] at g1
            have : p = (s.heap.objs.size, it) := Prod.ext e (Option.some.inj g1).symm
            exact this ▸ N' _ (.head _)
          · have e := List.mem_singleton.mp e
            rw [e, (N₁ _ (List.mem_append_right _ hmem)).1] at g1
            have : p = (ax, lo) := Prod.ext e (Option.some.inj g1).symm
            exact this ▸ N' _ (.tail _ hm')
        · exact N' _ (.tail _ hp)
      cases f with
      | ret v => exact .ret hq
      | brk => exact .brk hq
      | next => exact .next (conv hq)
      | cont => exact .cont (conv hq)
  · rintro h' tk m' n' F' N' _ ⟨_, hSt⟩
    rw [List.drop_length] at hSt
    exact done m' n' h' tk hSt F' N'
end
theorem tab_off {h₀ h : Heap} {L I ax : Addr} {it : Obj} {i : Nat} {st : Option (Addr × Obj)} {news : List (Addr × Obj)} (N : News h₀ L h (tabL st ++ (I, it) :: news)) (hst : OkTab lamQ st) (hid : it.data = itF ax i) (h71 : I ≠ 71) :
    ∀ q ∈ tabL st, q.1 ≠ I := by
  intro q hq
  cases st with
  | none =>
    rcases List.mem_cons.mp hq with rfl | hq
    · exact h71.symm
    · cases hq
  | some c =>
    rcases List.mem_cons.mp hq with rfl | hq
    · exact h71.symm
    · have := List.mem_singleton.mp hq
      subst this
      intro e
      obtain ⟨vs, t, d1, d2⟩ := hst
      have g1 := (N q (.tail _ (.head _))).1
      have g2 := (N (I, it) (List.mem_append_right _ (.head _))).1
      rw [e, g2] at g1
      have : it = q.2 := Option.some.inj g1
      rw [← this, hid] at d1
      cases d1
      cases d2
theorem tab_71 (st : Option (Addr × Obj)) (news : List (Addr × Obj)) {I : Addr} (h : ∀ q ∈ tabL st ++ news, q.1 < I) : I ≠ 71 := by
  obtain ⟨o, ho⟩ := tab_mem st news
  exact Nat.ne_of_gt (h _ ho)
theorem news_back {h₀ h : Heap} {L : Addr} {q : Addr × Obj} {a b : List (Addr × Obj)} (N : News h₀ L h (a ++ q :: b)) : News h₀ L h (q :: (a ++ b)) := fun p hp => N p (by
  rcases List.mem_cons.mp hp with rfl | hp
  · exact List.mem_append_right _ (.head _)
  · rcases List.mem_append.mp hp with h | h
    · exact List.mem_append_left _ h
    · exact List.mem_append_right _ (.tail _ h))
noncomputable abbrev gW : Str := Str.ofString "which"
noncomputable abbrev gT : Str := Str.ofString "told"
noncomputable abbrev gL : Str := Str.ofString "line"
noncomputable def ASt (m₀ : Str → Option Value) (news : List (Addr × Obj)) (vs : List Value) (m : Str → Option Value) (n : List (Addr × Obj)) : Prop :=
  ∃ ks x t st, IntsAre vs ks ∧ Good ks x ∧ OkTab lamQ st ∧ n = tabL st ++ news ∧ (∀ y, y ≠ gL → y ≠ gT → y ≠ gW → m y = m₀ y) ∧ m gL = some (.str (mkS x) t)
theorem agr_next {h₀ h' : Heap} {L I ax : Addr} {lo it : Obj} {m₀ m' : Str → Option Value} {news : List (Addr × Obj)} {r : List Value} {ks : List Int} {x : List Nat} {t : Tok} {st : Option (Addr × Obj)} {s₁ : Shared} {Q : Flow → Shared → Prop} {tk' i : Nat}
    (F : Fr h₀ L h' m') (N : News h₀ L h' ((I, it) :: (tabL st ++ news))) (hi : IntsAre r ks) (hg : Good ks x) (hst : OkTab lamQ st) (hid : it.data = itF ax i) (h71 : I ≠ 71) (hn : ∀ q ∈ news, q.1 ≠ I) (hlo : (ax, lo) ∈ news)
    (hm' : ∀ y, y ≠ gL → y ≠ gT → y ≠ gW → m' y = m₀ y) (hl : m' gL = some (.str (mkS x) t)) : GTurn h₀ L (ax, lo) I it (ASt m₀ news r) s₁ Q .next { s₁ with heap := h', toks := tk' } := by
  refine gturn_next (n' := tabL st ++ news) F N (fun q hq => ?_) (List.mem_append_right _ hlo) ⟨ks, x, t, st, hi, hg, hst, rfl, hm', hl⟩
  rcases List.mem_append.mp hq with hq | hq
  · exact tab_off (news_swap N) hst hid h71 q hq
  · exact hn q hq
theorem ints_cons {v : Value} {r : List Value} {ks : List Int} (h : IntsAre (v :: r) ks) : ∃ k t ks', ks = k :: ks' ∧ v = .int k t ∧ IntsAre r ks' := by
  cases h with
  | cons k t h => exact ⟨k, t, _, rfl, rfl, h⟩
noncomputable abbrev intL (vs : List Value) (n : Nat) : Obj := { cls := .type "list", data := .seq vs.toArray n }
noncomputable def RetB (h₀ : Heap) (L : Addr) (m : Str → Option Value) (news : List (Addr × Obj)) (s : Shared) (Q : Value → Shared → Prop) : Prop :=
  ∀ (st : Option (Addr × Obj)) (h' : Heap) (tk' : Nat), OkTab lamQ st → Fr h₀ L h' m → News h₀ L h' (tabL st ++ news) → Q (.bool true) { s with heap := h', toks := tk' }
/-- a contract of a def that says True, and may make the lambda's code -/
noncomputable abbrev CtB (prog : Program) (w : World) (p : Program) (loose : List Str) (mean : ExcName → Option Value) (mg mb : Str → Option Value) (H : List (Addr × Obj) → Prop) (f : Addr) (d u : Nat) (vs : List Value) : Prop :=
  ∀ (dp un : Nat) (gd : Option (List Code)) (cn : Str) (cs : Scope) (a : Addr) (ccd : Value) (cl : List (Str × Addr)) (outer : List Env) (A₀ : Around) (base h₀ : Heap) (L : Addr) (m : Str → Option Value) (news : List (Addr × Obj)) (s : Shared) (Q E : Value → Shared → Prop) (st : Option (Addr × Obj)),
    Below A₀ base outer h₀ → Fr h₀ L s.heap m → (K w.params).In h₀ → News h₀ L s.heap (tabL st ++ news) → OkTab lamQ st → (∀ q ∈ news, q.1 ≠ 71) → H news → Top p loose mean mg mb h₀ → cs.kind = .function → dp + d < recursionLimit → un + u < cLine → RetB h₀ L m news s Q →
      wpAny (model prog w) (ktrTop dp un gd cn cs L a ccd cl outer) (call (.ref f) vs) Q E s
theorem lines_IlN3_1 : True := by
  k_with "call ref" => ((k_here; k_extra "mine calls"))
  k_with "exec For Name Name cons nil" => ((k_here; k_extra "mine for"))
  k_with "pyIter ref" => ((k_here; k_extra "mine iter"))
  k_with "mine enterB" => ((unfold CtB; intro dp un gd cn cs a ccd cl outer A₀ base h₀ L m news s Q E st B F X N hst hn71 hH T hk hd hu hret; refine wpAny_call ?_; k_dflt cell_enter))
  trivial
set_option maxHeartbeats 4000000 in
theorem c_agrees (prog : Program) (w : World) (p : Program) (loose : List Str) (mean : ExcName → Option Value) (mg mb : Str → Option Value) (x : List Nat) (t : Tok) (D : Addr) (vs : List Value) (ks : List Int) (n : Nat) (hi : IntsAre vs ks) (hg : Good ks x) :
    CtB prog w p loose mean mg mb (fun news => (D, intL vs n) ∈ news) 309 10 140 [.str (mkS x) t, .ref D] := by
  k_with "mine calls" => refine Stop.go ?_
  k_with "mine for" =>
    rename Fr _ _ _ _ => Fw
    k_dflt (refine' For_invVF Fw ?k1 ?k2 ?_; (case k1 => exact rfl); (case k2 => exact rfl); k_whole)
  k_with "mine iter" => refine Stop.go ?_
  walk_at "mine enterB"
  k_steps
  refine Stop.of ?_
  rename Fr _ _ _ _ => Fw
  rename News _ _ _ _ => Nw
  refine' for_row (ASt _ news) rfl Fw Nw (List.mem_append_right _ hH) rfl rfl ⟨ks, x, t, st, hi, hg, hst, rfl, fun _ _ _ _ => rfl, rfl⟩ ?turn ?done
  case turn =>
    rintro v r m₁ n₁ it i h tk ⟨ks', x', t', st', hi', hg', hst', rfl, hm', hl'⟩ _ hlt hoff hid F1 N1
    obtain ⟨k, u, ks2, rfl, rfl, hi2⟩ := ints_cons hi'
    obtain ⟨k0, k11, hx', hy', hg2⟩ := hg'
    have em := upd3 hm'
    rw [hl'] at em
    rw [em] at F1
    have h71 := tab_71 st news hlt
    have hnI : ∀ q ∈ news, q.1 ≠ _ := fun q hq => Nat.ne_of_lt (hlt q (List.mem_append_right _ hq))
    have hn72 : ∀ q ∈ (_, it) :: news, q.1 ≠ 71 := List.forall_mem_cons.mpr ⟨h71, hn71⟩
    clear Fw Nw
    k_steps
    refine Stop.of ?_
    refine use_ct (c_told _ _ _ _ _ _ _ k x' _ _ k0 k11 hx' hy') (by assumption) (by k_asm) (by assumption) (by k_asm) (by assumption) rfl (by ktr_room) (by ktr_units) ?_
    intro t9 h9 tk9 F9 N9
    clear F1 N1
    k_steps
    refine Stop.of ?_
    rename Fr _ _ _ _ => F8
    rename News _ _ _ _ => N8
    refine use_ctS (c_hand _ _ _ _ _ _ _ k x' _ _ k0 k11 hx' hy') (by assumption) F8 (by assumption) (news_swap N8) hst' hn72 (by assumption) rfl (by ktr_room) (by ktr_units) ?_
    intro t7 st7 h7 tk7 hst7 F7 N7
    have N7' := news_back N7
    clear N7 F8 N8
    k_steps
    · exfalso
      exact (‹handL k x' ≠ handL k x'› rfl)
    · exact agr_next (by k_asm) (by k_asm) hi2 hg2 hst7 hid h71 hnI hH (by intro y h1 h2 h3; (repeat (first | (with_reducible exact rfl) | refine ite_off (by assumption) ?_)); (try exact rfl)) rfl
  case done =>
    rintro m₁ n₁ h tk ⟨ks', x', t', st', hi', hg', hst', rfl, hm', hl'⟩ F1 N1
    have em := upd3 hm'
    rw [hl'] at em
    rw [em] at F1
    clear Fw Nw
    k_steps
    exact hret st' _ _ hst' (by k_asm) (by k_asm)

end Mine
end -- IlN3
section -- IlN4
open PySem PySem.W PyProof.Rows PySem.Calls PySem.Spec
namespace Mine
theorem lines_IlN4L_1 : True := by
  k_with_none
  k_with "mine sub" => (first | exact fun _ h => h | exact fun _ h => .tail _ h | exact fun _ h => .tail _ (.tail _ h) | exact fun _ h => .tail _ (.tail _ (.tail _ h)) | exact fun _ h => .tail _ (.tail _ (.tail _ (.tail _ h))) | exact fun _ h => .tail _ (.tail _ (.tail _ (.tail _ (.tail _ h)))))
  k_with "mine eq" => (first | rfl | (subst_vars; rfl))
  k_with "mine end" => ((refine' ret_of (by assumption) _ ?q9e1 ?q9e2 ?q9e3 ?q9e4; (case q9e2 => k_asm); (case q9e3 => k_asm); (case q9e4 => walk_at "mine sub"); (case q9e1 => walk_at "mine eq"); (all_goals exact (0 : Nat))))
  k_with "mine endS" => ((refine' ret_of (by assumption) _ (veq ?_) ?q9e2 ?q9e3 ?q9e4; (case q9e2 => k_asm); (case q9e3 => k_asm); (case q9e4 => walk_at "mine sub")))
  k_with "mine lt" => (first | assumption | exact ktn_ltOf (by assumption))
  k_with "mine endT3" => ((refine' ret_ofT (by assumption) ?q9F ?q9N ?q9l ?q9s [(_, _), (_, _), (_, _)] ?q9o ?_; (case q9F => k_asm); (case q9N => k_asm); (case q9l => walk_at "mine lt"); (case q9s => walk_at "mine sub"); (case q9o => ((try simp only [w_nil, w_slash]); rfl))))
  k_with "mine endTT" => ((refine' ret_ofT (by assumption) ?q9F ?q9N ?q9l ?q9s _ ?q9o ?q9e; (case q9F => k_asm); (case q9N => k_asm); (case q9l => walk_at "mine lt"); (case q9s => walk_at "mine sub"); (case q9o => exact rfl); (case q9e => assumption)))
  k_with "mine endT2" => ((refine' ret_ofT (by assumption) ?q9F ?q9N ?q9l ?q9s [(_, _), (_, _)] ?q9o ?_; (case q9F => k_asm); (case q9N => k_asm); (case q9l => walk_at "mine lt"); (case q9s => walk_at "mine sub"); (case q9o => ((try simp only [w_nil, w_slash]); rfl))))
  k_with "mine enterT" => ((unfold CtT; intro dp un gd cn cs a ccd cl outer A₀ base h₀ L m news s Q E B F X N T hk hd hu hret; refine wpAny_call ?_; k_dflt cell_enter))
  k_with "mine enterR" => ((unfold Ct; intro dp un gd cn cs a ccd cl outer A₀ base h₀ L m news s Q E B F X N T hk hd hu hret; refine wpAny_call ?_; k_dflt (refine' kp_rest ?q9k1 ?q9k2 ?q9k3 ?q9k4 ?q9k5 ?q9kA ?q9kF ?q9kK ?q9k6 ?q9k7 ?q9k8 ?q9kV ?q9kP ?q9kG ?q9kB ?_ ?q9c2 ?q9c3 ?q9c4 ?q9c5; (case q9kA => exact rfl); (case q9kF => exact rfl); (case q9kK => assumption); (case q9k1 => k_asm); (case q9k2 => k_asm); (case q9k3 => k_asm); (case q9k4 => k_asm); (case q9k5 => k_asm); (case q9k6 => k_is); (case q9k7 => k_is); (case q9k8 => ktr_room); (case q9kV => kl_lit); (case q9kP => exact rfl); (case q9kG => exact fun _ => rfl); (case q9kB => exact fun _ => locs rfl); (case q9c5 => decide); (case q9c2 => exact rfl); (case q9c3 => exact rfl); (case q9c4 => exact rfl); k_whole); intro D' g' L' h' l1 FG' F' N' B' X' T'; (try k_lt l1); (try dsimp only); (try k_lift B'); (try k_fold)))
  k_with "mine enter" => ((unfold Ct; intro dp un gd cn cs a ccd cl outer A₀ base h₀ L m news s Q E B F X N T hk hd hu hret; refine wpAny_call ?_; k_dflt cell_enter))
  k_with "mine use" => (((case q9k1 => k_asm); (case q9k2 => k_asm); (case q9k3 => k_asm); (case q9k4 => k_asm); (case q9k5 => k_asm); (case q9kK => first | exact rfl | assumption); (case q9kd => ktr_room); (case q9ku => ktr_units); intro t9 h9 tk9 F9 N9; (try dsimp only); (try k_fold); (try k_sweep)))
  k_with "mine useT" => (((case q9k1 => k_asm); (case q9k2 => k_asm); (case q9k3 => k_asm); (case q9k4 => k_asm); (case q9k5 => k_asm); (case q9kK => first | exact rfl | assumption); (case q9kd => ktr_room); (case q9ku => ktr_units); intro D9 ps9 h9 tk9 e9 F9 N9 l9; (try k_lt l9); (try dsimp only); (try k_fold); (try k_sweep)))
  k_with "mine word" => (first | with_reducible exact w_slash | with_reducible exact w_dot | with_reducible exact w_dotdot | with_reducible exact w_nil | with_reducible rfl)
  k_with "mine len" => (first | assumption | lia | (simp only [List.length_take, List.length_drop, List.length_append, List.length_replicate, List.length_cons, List.length_nil]; lia))
  k_with "call builtin:issubclass" => ((k_here; k_dflt (refine' k_issub ?q9k1 ?q9k2 ?_; (case q9k1 => k_asm); (case q9k2 => k_mem); k_whole)))
  k_with "call builtin:str.rfind" => ((k_here; k_dflt (refine' t_rfind ?q9y ?_; (case q9y => walk_at "mine word"); k_whole); intro r' hr' h1' h2'))
  k_with "subscriptTail Name Slice str ref" => ((k_here; (with_reducible show wpAny _ _ (subscriptTail _ (Expr.Slice (some _) none none _) (Value.str (mkS _) _) _) _ _ _); k_dflt (refine' t_slice_from (s := ⟨_, _, _, _, _⟩) ?q9F ?q9N ?q9x ?q9i ?_ ?q9hs ?q9ht; (case q9F => k_asm); (case q9N => k_asm); (case q9x => walk_at "mine len"); (case q9i => walk_at "mine len"); (case q9hs => with_unfolding_all rfl); (case q9ht => intro _; with_unfolding_all rfl); k_whole); intro h' t' k' F' N'; (try k_sweep)))
  k_with "subscriptTail Name Slice str ref" => ((k_here; (with_reducible show wpAny _ _ (subscriptTail _ (Expr.Slice none (some _) none _) (Value.str (mkS _) _) _) _ _ _); k_dflt (refine' t_slice_to (s := ⟨_, _, _, _, _⟩) ?q9F ?q9N ?q9x ?q9i ?_ ?q9hs ?q9ht; (case q9F => k_asm); (case q9N => k_asm); (case q9x => walk_at "mine len"); (case q9i => walk_at "mine len"); (case q9hs => with_unfolding_all rfl); (case q9ht => intro _; with_unfolding_all rfl); k_whole); intro h' t' k' F' N'; (try k_sweep)))
  k_with "subscriptTail Name Slice str ref" => ((k_here; (with_reducible show wpAny _ _ (subscriptTail _ (Expr.Slice (some _) (some _) none _) (Value.str (mkS _) _) _) _ _ _); k_dflt (refine' t_slice_mid (s := ⟨_, _, _, _, _⟩) ?q9F ?q9N ?q9x ?q9i ?q9j ?_ ?q9hs ?q9ht; (case q9F => k_asm); (case q9N => k_asm); (case q9x => walk_at "mine len"); (case q9i => walk_at "mine len"); (case q9j => walk_at "mine len"); (case q9hs => with_unfolding_all rfl); (case q9ht => intro _; with_unfolding_all rfl); k_whole); intro h' t' k' F' N'; (try k_sweep)))
  k_with "truthy str" => ((k_here; (with_reducible show wpAny _ _ (PySem.truthy (Value.str (mkS _) _)) _ _ _); k_dflt (refine' t_truthy ?q9x ?_; (case q9x => walk_at "mine len"); k_whole); intro k'))
  k_with "call builtin:len" => ((k_here; (with_reducible show wpAny _ _ (call (Value.builtin "len") [Value.str (mkS _) _]) _ _ _); k_dflt (refine' t_len ?q9x ?_; (case q9x => walk_at "mine len"); k_whole); intro k'))
  k_with "compareOp NotEq str str" => ((k_here; (with_reducible show wpAny _ _ (compareOp CmpOp.NotEq (Value.str (mkS _) _) _) _ _ _); k_dflt (refine' t_ne ?q9y ?_; (case q9y => walk_at "mine word"); k_whole)))
  k_with "compareOp Eq str str" => ((k_here; (with_reducible show wpAny _ _ (compareOp CmpOp.Eq (Value.str (mkS _) _) _) _ _ _); k_dflt (refine' t_eq ?q9y ?_; (case q9y => walk_at "mine word"); k_whole)))
  k_with "binaryOp Add str str" => ((k_here; k_dflt (refine' t_add ?q9x ?q9y ?q9l ?_; (case q9x => walk_at "mine word"); (case q9y => walk_at "mine word"); (case q9l => walk_at "mine len"); k_whole); intro t' k'))
  k_with "binaryOp Mult str int" => ((k_here; k_dflt (refine' t_mul ?q9y ?q9a ?q9b ?_; (case q9y => walk_at "mine word"); (case q9a => walk_at "mine len"); (case q9b => walk_at "mine len"); k_whole); intro t' k'))
  k_with "call builtin:str.rstrip" => ((k_here; k_dflt (refine' t_rstrip ?q9y ?q9x ?_; (case q9y => walk_at "mine word"); (case q9x => walk_at "mine len"); k_whole); intro t' k'))
  k_with "call builtin:str.lstrip" => ((k_here; k_dflt (refine' t_lstrip ?q9y ?q9x ?_; (case q9y => walk_at "mine word"); (case q9x => walk_at "mine len"); k_whole); intro t' k'))
  k_with "call builtin:str.startswith" => ((k_here; k_dflt (refine' t_starts ?q9y ?_; (case q9y => walk_at "mine word"); k_whole)))
  k_with "call builtin:str.endswith" => ((k_here; k_dflt (refine' t_ends ?q9y ?_; (case q9y => walk_at "mine word"); k_whole)))
  k_with "call builtin:str.split" => ((k_here; k_dflt (refine' t_split ?q9F ?q9N ?q9y ?q9x ?_; (case q9F => k_asm); (case q9N => k_asm); (case q9y => walk_at "mine word"); (case q9x => walk_at "mine len"); k_whole); intro ps' h' k' e' F' N'; (try k_sweep)))
  k_with "call builtin:str.join" => ((k_here; k_dflt (refine' t_join ?q9N ?q9m ?q9y ?q9l ?_; (case q9N => k_asm); (case q9m => k_mem); (case q9y => walk_at "mine word"); (case q9l => walk_at "mine len"); k_whole); intro t' k'))
  k_with "subscriptTail Name Name str int" => ((k_here; (with_reducible show wpAny _ _ (subscriptTail _ _ (Value.str (mkS _) _) _) _ _ _); k_dflt (refine' t_item ?q9x ?q9i ?q9j ?_ ?q9hs ?q9ht; (case q9x => walk_at "mine len"); (case q9i => walk_at "mine len"); (case q9j => walk_at "mine len"); (case q9hs => with_unfolding_all rfl); (case q9ht => intro _; with_unfolding_all rfl); k_whole); intro c' hc'))
  k_with "exec While Compare cons nil" => ((k_here; k_extra "mine while"))
  k_with "IntTurn ret" => (dsimp only [IntTurn])
  k_with "IntTurn next" => ((refine' int_turn_next ?q9F ?q9N ?q9m ?q9P; (case q9F => k_asm); (case q9N => k_asm); (case q9m => k_extra "mine measure"); (case q9P => k_extra "mine state")))
  k_with "exec If" => ((k_here; k_extra "mine if"))
  k_with "exec For Name Name cons nil" => ((k_here; k_extra "mine for"))
  k_with "pyIter ref" => ((k_here; k_extra "mine iter"))
  k_with "LoopStep3 next" => ((k_extra "mine step"))
  k_with "inplaceOp Add str str" => ((k_here; k_dflt (refine' t_iadd ?q9x ?q9y ?q9l ?_; (case q9x => walk_at "mine word"); (case q9y => walk_at "mine word"); (case q9l => walk_at "mine len"); k_whole); intro t' k'))
  k_with "TurnEnd next" => ((refine' acc_next ?q9F ?q9N ?q9m ?q9hlt ?_; (case q9F => k_asm); (case q9N => k_asm); (case q9m => k_mem); (case q9hlt => assumption)))
  k_with "TurnEnd cont" => ((refine' acc_cont ?q9F ?q9N ?q9m ?q9hlt ?_; (case q9F => k_asm); (case q9N => k_asm); (case q9m => k_mem); (case q9hlt => assumption)))
  k_with "truthy ref" => ((k_here; k_dflt (refine' t_truthyL ?q9N ?q9m ?q9z ?_; (case q9N => k_asm); (case q9m => k_mem); (case q9z => walk_at "mine len"); k_whole); intro k'))
  k_with "subscriptTail Name UnaryOp ref int" => ((k_here; k_dflt (refine' t_last ?q9N ?q9m ?q9e ?q9z ?_ ?q9s; (case q9N => k_asm); (case q9m => k_mem); (case q9e => first | assumption | (simp_all; done)); (case q9z => walk_at "mine len"); (case q9s => with_unfolding_all rfl); k_whole); intro q' p' e'))
  k_with "call builtin:list.append" => ((k_here; k_dflt (refine' t_append ?q9F ?q9N ?q9y ?q9U ?q9z ?_; (case q9F => k_asm); (case q9N => k_asm); (case q9y => walk_at "mine word"); (case q9U => k_upd); (case q9z => walk_at "mine len"); k_whole); intro h' F' N'; (try k_sweep)))
  k_with "call builtin:list.pop" => ((k_here; k_dflt (refine' t_pop ?q9F ?q9N ?q9e ?q9U ?q9z ?_; (case q9F => k_asm); (case q9N => k_asm); (case q9e => first | assumption | (simp_all; done)); (case q9U => k_upd); (case q9z => walk_at "mine len"); k_whole); intro h' v' F' N'; (try k_sweep)))
  k_with "truthy str" => ((k_here; (with_reducible show wpAny _ _ (PySem.truthy (Value.str (mkS [_]) _)) _ _ _); k_dflt (refine t_truthy1 ?_); intro k'))
  k_with "formatField str" => ((k_here; k_dflt (refine' t_field ?q9x ?_; (case q9x => walk_at "mine len"); k_whole); intro t' k'))
  k_with "exec If" => ((k_here; refine wpAny_If ?_))
  k_with "mine word" => (first | with_reducible exact w_slash | with_reducible exact w_dot | with_reducible exact w_dotdot | with_reducible exact w_nil | with_reducible exact w_star | with_reducible exact w_quest | with_reducible exact w_open | with_reducible exact w_bang | with_reducible exact w_shut | with_reducible exact w_hyph | with_reducible exact w_bsl | with_reducible exact w_bsl2 | with_reducible exact w_never | with_reducible exact w_hat | with_reducible exact w_bopen | with_reducible exact w_dots | with_reducible exact w_lazy | with_reducible exact w_par | with_reducible exact w_pre | with_reducible exact w_end | with_reducible rfl)
  k_with "getAttr ref true" => ((k_here; k_dflt (refine' w_bound ?q9F ?q9N ?q9m ?_; (case q9F => k_asm); (case q9N => k_asm); (case q9m => k_mem); k_whole); intro b' h' k' F' N' l1; (try k_lt l1)))
  k_with "getAttr ref" => ((k_here; k_dflt (refine' w_bound ?q9F ?q9N ?q9m ?_; (case q9F => k_asm); (case q9N => k_asm); (case q9m => k_mem); k_whole); intro b' h' k' F' N' l1; (try k_lt l1)))
  k_with "exec While BoolOp cons nil" => ((k_here; k_extra "mine while"))
  k_with "StandsA" => (exact standsA (by k_asm) (by k_mem))
  k_with "callWith ref" => ((k_here; k_dflt (refine' callWith_boundA ?q9N ?q9m ?_; (case q9N => k_asm); (case q9m => k_mem); k_whole)))
  k_with "And" => (((with_reducible show StandsA _ _ _ ∧ _); refine ⟨standsA (by k_asm) (by k_mem), ?_⟩; try dsimp only [List.nil_append, List.cons_append]))
  k_with "compareOp NotIn str str" => ((k_here; k_dflt (refine' t_notin' ?q9y ?q9c ?_; (case q9y => walk_at "mine word"); (case q9c => k_extra "mine notin"); k_whole)))
  k_with "call builtin:str.replace" => ((k_here; k_dflt (refine' t_replace ?q9hu ?q9hv ?q9huv ?q9y ?q9z ?q9r ?q9yz ?q9x ?_; (case q9y => walk_at "mine word"); (case q9z => walk_at "mine word"); (case q9hu => exact Nat.succ_ne_zero _); (case q9hv => exact Nat.succ_ne_zero _); (case q9huv => exact Nat.ne_of_lt (Nat.lt_succ_self _)); (case q9r => decide); (case q9yz => decide +kernel); (case q9x => walk_at "mine len"); k_whole); intro t' k'))
  k_with "joinParts" => ((k_here; k_dflt (first
  | (refine' t_jp_cons ?q9o ?_; (case q9o => first | exact w_nil | with_reducible rfl | rfl); k_whole)
  | (refine' t_jp_nil ?q9x ?_; (case q9x => walk_at "mine len"); k_whole; intro t' k'))))
  k_with "Exists" => ((k_dflt (refine' ⟨_, ?q9y, ?q9l, ?_⟩; (case q9y => walk_at "mine word"); (case q9l => walk_at "mine len"); k_whole)))
  k_with "compareOp IsNot str ref" => ((k_here; refine wpAny_isNot_other (by rfl) (by intro x; cases x) ?_))
  k_with "compareOp IsNot ref ref" => ((k_here; refine wpAny_isNot_self (by rfl) ?_))
  k_with "subscriptTail Name Constant str int" => ((k_here; (with_reducible show wpAny _ _ (subscriptTail _ _ (Value.str (mkS _) _) _) _ _ _); k_dflt (refine' t_item ?q9x ?q9i ?q9j ?_ ?q9hs ?q9ht; (case q9x => walk_at "mine len"); (case q9i => walk_at "mine len"); (case q9j => k_extra "mine first"); (case q9hs => with_unfolding_all rfl); (case q9ht => intro _; with_unfolding_all rfl); k_whole); intro c' hc'))
  k_with "execs cons" => ((k_here; k_extra "mine toks"))
  k_with "compareOp Is str ref" => ((k_here; refine wpAny_is_other (by rfl) (by intro x; cases x) ?_))
  k_with "compareOp Is ref ref" => ((k_here; refine wpAny_is_self (by rfl) ?_))
  k_with "compareOp In str str" => ((k_here; k_dflt (refine' t_in ?q9y ?_; (case q9y => walk_at "mine word"); k_whole)))
  k_with "TTurn ret" => (dsimp only [TTurn])
  k_with "TJoin next" => ((k_here; k_dflt (refine' tjoin ?q9F ?q9N ?q9e ?q9hm ?q9hi ?_; (case q9F => k_asm); (case q9e => exact rfl); (case q9N => k_extra "mine ledger"); (case q9hm => (intro y h1 h2; (repeat (first | (with_reducible exact rfl) | refine ite_off (by assumption) ?_)); (try exact rfl))); (case q9hi => exact rfl))))
  k_with "TTurn brk" => (dsimp only [TTurn])
  k_with "TTurn next" => ((k_here; k_dflt (refine' tturn_next ?q9F ?q9N ?q9e ?q9hm ?q9hi ?_ ?_; (case q9F => k_asm); (case q9e => exact rfl); (case q9N => k_extra "mine ledger"); (case q9hm => (intro y h1 h2; (repeat (first | (with_reducible exact rfl) | refine ite_off (by assumption) ?_)); (try exact rfl))); (case q9hi => exact rfl))))
  k_with "mine sub" => (first | exact fun _ h => h | (refine fun p hp => ?_; repeat (first | exact hp | refine List.Mem.tail _ ?_)))
  trivial
noncomputable def scopeOf : Stmt → Scope
  | .FunctionDef _ _ _ _ _ _ scope _ _ _ => scope
  | _ => default
theorem num_ok {ns : List Int} {k : Int} (h : k ∈ (ns.take 10).map fun k' => k'.fmod (10 ^ Int.toNat 6)) : 0 ≤ k ∧ k < 1000000 := by
  obtain ⟨a, _, rfl⟩ := List.mem_map.mp h
  have e : (10 : Int) ^ Int.toNat 6 = 1000000 := by decide
  rw [e, Int.fmod_eq_emod_of_nonneg _ (by lia)]
  lia
theorem num_div {k : Int} (h : 0 ≤ k ∧ k < 1000000) : k.fdiv 12 = ((k.toNat / 12 : Nat) : Int) := by
  rw [Int.fdiv_eq_ediv_of_nonneg _ (by lia)]
  lia
noncomputable abbrev pieceI (k : Int) : List Nat := pieceL (k.toNat / 12)
theorem pieces_int (ks : List Int) : 45 ∉ ks.flatMap pieceI ∧ (ks.flatMap pieceI).length ≤ 3 * ks.length := by
  have := pieces_flat (ks.map fun k => k.toNat / 12)
  rw [List.flatMap_map, List.length_map] at this
  exact this
theorem txelI {news : List (Addr × Obj)} {l r : List Nat} {t : Tok} (e : l = r) : TxEl news r (.str (mkS l) t) news := ⟨rfl, t, by rw [e]⟩
theorem lines_IlN4_1 : True := by
  k_with "CompSrc" => ((k_here; k_extra "mine src"))
  k_with "call builtin:str.join" => ((k_here; k_dflt (refine' t_joinE ?q9N ?q9m ?q9y ?q9e ?q9l ?_; (case q9N => k_asm); (case q9m => k_mem); (case q9y => walk_at "mine word"); (case q9e => assumption); (case q9l => assumption); k_whole); intro t' k'))
  k_with "call ref" => ((k_here; k_extra "mine calls"))
  trivial
theorem news_rot {h₀ h : Heap} {L : Addr} {q : Addr × Obj} {a : List (Addr × Obj)} (N : News h₀ L h (a ++ [q])) : News h₀ L h (q :: a) := news_sub N fun p hp => by
  rcases List.mem_cons.mp hp with rfl | hp
  · exact List.mem_append_right _ (.head _)
  · exact List.mem_append_left _ hp
theorem use_ctB {prog : Program} {w : World} {p : Program} {loose : List Str} {mean : ExcName → Option Value} {mg mb : Str → Option Value} {H : List (Addr × Obj) → Prop} {f : Addr} {d u : Nat} {vs : List Value} {dp un : Nat} {gd : Option (List Code)} {cn : Str} {cs : Scope} {a : Addr} {ccd : Value} {cl : List (Str × Addr)} {outer : List Env} {A₀ : Around} {base h₀ : Heap} {L : Addr} {m : Str → Option Value} {news : List (Addr × Obj)} {s : Shared} {Q E : Value → Shared → Prop} {st : Option (Addr × Obj)}
    (C : CtB prog w p loose mean mg mb H f d u vs) (B : Below A₀ base outer h₀) (F : Fr h₀ L s.heap m) (X : (K w.params).In h₀) (N : News h₀ L s.heap (tabL st ++ news)) (hst : OkTab lamQ st) (hn : ∀ q ∈ news, q.1 ≠ 71) (hH : H news) (T : Top p loose mean mg mb h₀) (hk : cs.kind = .function) (hd : dp + d < recursionLimit) (hu : un + u < cLine) (hret : RetB h₀ L m news s Q) :
    wpAny (model prog w) (ktrTop dp un gd cn cs L a ccd cl outer) (call (.ref f) vs) Q E s := C _ _ _ _ _ _ _ _ _ _ _ _ _ _ _ _ _ _ _ B F X N hst hn hH T hk hd hu hret
set_option maxHeartbeats 4000000 in
theorem c_law (w : World) (p : Program) (loose : List Str) (mean : ExcName → Option Value) (mg mb : Str → Option Value) (h₀ : Heap) (fa l L : Addr) (cd : Value) (vs : List Value) (ns : List Int) (s : Shared) (Q : Flow → Shared → Prop) (E : Value → Shared → Prop)
    (X : (K w.params).In h₀) (T : Top p loose mean mg mb h₀) (B : Below callerA h₀ [] h₀) (F : Fr h₀ L s.heap (fun x => List.lookup x [(Str.ofString "script", Value.ref l)].reverse)) (hl : h₀.IsList l vs.toArray) (hi : IntsAre vs ns) (hn : ns.length ≤ 63)
    (N : News h₀ L s.heap [(71, tabObj #[])])
    (hret : ∀ (st : Option (Addr × Obj)) (h' : Heap) (tk' : Nat) (m' : Str → Option Value), OkTab lamQ st → Fr h₀ L h' m' → News h₀ L h' (tabL st) → Q (.ret (.bool true)) { s with heap := h', toks := tk' }) :
    wpAny (model PySem.Challenge.rw_il0089_01.row.prog w) (callerA.deeper (envOf (Str.ofString "law") (scopeOf st48) L fa cd)) (execs (bodyOf st48) (envOf (Str.ofString "law") (scopeOf st48) L fa cd)) Q E s := by
  k_with "mine calls" => refine Stop.go ?_
  k_with "mine src" => ((with_reducible show PyProof.Rows.LCg.CompSrc _ _ _ _ _ _ _ (Expr.Call _ _ _ _) _ _ _ _ _ _); refine Stop.go ?_)
  show wpAny _ _ (execs [_, _, _] _) _ _ _
  k_steps
  refine Stop.of ?_
  rename News _ _ _ _ => N1
  rename Fr _ _ _ _ => F1
  rename IntsAre _ ((ns.take 10).map _) => I1
  have hlen : ((ns.take 10).map fun k' => k'.fmod (10 ^ Int.toNat 6)).length ≤ 10 := by rw [List.length_map, List.length_take]; lia
  have hnum : ∀ k ∈ (ns.take 10).map fun k' => k'.fmod (10 ^ Int.toNat 6), 0 ≤ k ∧ k < 1000000 := fun k hk => num_ok hk
  have hpf := pieces_int ((ns.take 10).map fun k' => k'.fmod (10 ^ Int.toNat 6))
  generalize ((ns.take 10).map fun k' => k'.fmod (10 ^ Int.toNat 6)) = nums at I1 hlen hnum hpf
  refine src_ints pieceI rfl F1 N1 (.head _) I1 (by lia) ?_ ?_
  · intro c9 u9 I9 oI9 C9 oC9 D9 m9 ys9 h9 tk9 E9 hc9 hC9 hx9 F9 N9 off9 ne9
    have hc := hnum c9 hc9
    clear F1 N1
    k_steps
    refine Stop.of ?_
    rw [num_div hc]
    refine use_ct (c_piece _ _ _ _ _ _ _ _ _ (by lia)) (by assumption) (by k_asm) (by assumption) (by k_asm) (by assumption) rfl (by ktr_room) (by ktr_units) ?_
    intro t8 h8 tk8 F8 N8
    k_steps
    refine PyProof.Rows.LCg.CompEnd.intro (by k_asm) (by k_asm) _ (fun p hp => hp) (by assumption) (Or.inr ⟨_, by k_mem, rfl, _, rfl⟩) (txelI rfl)
  · intro D9 h9 tk9 ts9 e9 F9 N9 o19
    have e8 := flat_of e9
    have hbig : (nums.flatMap pieceI).length ≤ 10000000 := by lia
    simp only [PyProof.Rows.LCg.Off1, and_true] at o19
    clear F1 N1
    k_steps
    refine Stop.of ?_
    rename News _ _ _ _ => N2
    rename Fr _ _ _ _ => F2
    rename IntsAre _ (_ ++ [2, 3, 1]) => I2
    have hks : ∀ k ∈ (nums.take 3).map fun k' => k'.fmod 12, 0 ≤ k ∧ k ≤ 11 := by
      intro k hk
      obtain ⟨a, _, rfl⟩ := List.mem_map.mp hk
      rw [Int.fmod_eq_emod_of_nonneg _ (by lia)]
      lia
    have hg := good_law hks (by rw [List.length_map, List.length_take]; lia) hpf.1 (by lia)
    have N3 := news_rot (a := [_, _, _, _, _, _, _]) N2
    refine use_ctB (st := none) (c_agrees _ _ _ _ _ _ _ _ _ _ _ _ 0 I2 hg) (by assumption) F2 (by assumption) N3 True.intro ?_ (.head _) (by assumption) rfl (by ktr_room) (by ktr_units) ?_
    · intro q hq
      simp only [List.mem_cons, List.not_mem_nil, or_false] at hq
      rcases hq with rfl | rfl | rfl | rfl | rfl | rfl | rfl <;> (refine neN ?_; lia)
    · intro st7 h7 tk7 hst7 F7 N7
      exact hret st7 _ _ _ hst7 F7 (news_sub N7 fun p hp => List.mem_append_left _ hp)

end Mine
end -- IlN4
section
set_option Elab.async true
theorem Mine.head.tw10015159338476511836 : True := trivial
theorem Mine.head.tw10021064610941686981 : True := trivial
theorem Mine.head.tw10059252607514160932 : True := trivial
theorem Mine.head.tw10079960370226730655 : True := trivial
theorem Mine.head.tw1009458076779189996 : True := trivial
theorem Mine.head.tw10160998794079316343 : True := trivial
theorem Mine.head.tw10195308064789442431 : True := trivial
theorem Mine.head.tw1021476736473036569 : True := trivial
theorem Mine.head.tw10258521583956687137 : True := trivial
theorem Mine.head.tw10261356005730403935 : True := trivial
theorem Mine.head.tw10339892782233949099 : True := trivial
theorem Mine.head.tw10366927770000222440 : True := trivial
theorem Mine.head.tw10431609616501453582 : True := trivial
theorem Mine.head.tw10437980411268242527 : True := trivial
theorem Mine.head.tw10504981510240967646 : True := trivial
theorem Mine.head.tw10519217271611395807 : True := trivial
theorem Mine.head.tw10533634037010066435 : True := trivial
theorem Mine.head.tw10668533816033670360 : True := trivial
theorem Mine.head.tw10706776884845955466 : True := trivial
theorem Mine.head.tw10786079294511566085 : True := trivial
theorem Mine.head.tw10840385229135970747 : True := trivial
theorem Mine.head.tw10865165270600546614 : True := trivial
theorem Mine.head.tw10875119458065257276 : True := trivial
theorem Mine.head.tw10892240956377086842 : True := trivial
theorem Mine.head.tw10898857373019930491 : True := trivial
theorem Mine.head.tw1096811197145343794 : True := trivial
theorem Mine.head.tw10987702880554017565 : True := trivial
theorem Mine.head.tw11062844159666043395 : True := trivial
theorem Mine.head.tw11063524718261073790 : True := trivial
theorem Mine.head.tw11117950037579232786 : True := trivial
theorem Mine.head.tw11124748197601291601 : True := trivial
theorem Mine.head.tw11133266565491337085 : True := trivial
theorem Mine.head.tw11175817918907758402 : True := trivial
theorem Mine.head.tw11194998557105285118 : True := trivial
theorem Mine.head.tw11198926098931714632 : True := trivial
theorem Mine.head.tw11290360913936777911 : True := trivial
theorem Mine.head.tw11308087075614649832 : True := trivial
theorem Mine.head.tw11325123074623421636 : True := trivial
theorem Mine.head.tw1134157569726261602 : True := trivial
theorem Mine.head.tw11426403942048686318 : True := trivial
theorem Mine.head.tw11427066125472700054 : True := trivial
theorem Mine.head.tw11433049526266426101 : True := trivial
theorem Mine.head.tw11434997419882176723 : True := trivial
theorem Mine.head.tw11540265856499891294 : True := trivial
theorem Mine.head.tw11543347474250821216 : True := trivial
theorem Mine.head.tw11544532188706048022 : True := trivial
theorem Mine.head.tw11556547117343562602 : True := trivial
theorem Mine.head.tw11628534518673281344 : True := trivial
theorem Mine.head.tw11692735721529064706 : True := trivial
theorem Mine.head.tw11714945338242495837 : True := trivial
theorem Mine.head.tw11770459041652445329 : True := trivial
theorem Mine.head.tw11821203517306503961 : True := trivial
theorem Mine.head.tw11862927689305589065 : True := trivial
theorem Mine.head.tw11903978197305205726 : True := trivial
theorem Mine.head.tw11950524999306083972 : True := trivial
theorem Mine.head.tw11975876845563090790 : True := trivial
theorem Mine.head.tw12024539317367501503 : True := trivial
theorem Mine.head.tw12032222614953749359 : True := trivial
theorem Mine.head.tw12065925908956356747 : True := trivial
theorem Mine.head.tw12074249297620881909 : True := trivial
theorem Mine.head.tw1211024037004892549 : True := trivial
theorem Mine.head.tw12147184966966947637 : True := trivial
theorem Mine.head.tw12169159797338600327 : True := trivial
theorem Mine.head.tw12201952087667049370 : True := trivial
theorem Mine.head.tw12211372217686004304 : True := trivial
theorem Mine.head.tw12253424078530308303 : True := trivial
theorem Mine.head.tw12264792733140247891 : True := trivial
theorem Mine.head.tw12287978374625458572 : True := trivial
theorem Mine.head.tw12310735299239354703 : True := trivial
theorem Mine.head.tw12330954535739239725 : True := trivial
theorem Mine.head.tw12344544660321961925 : True := trivial
theorem Mine.head.tw12352672977532951062 : True := trivial
theorem Mine.head.tw12359489953124434286 : True := trivial
theorem Mine.head.tw12364624919760631829 : True := trivial
theorem Mine.head.tw1239657978298473742 : True := trivial
theorem Mine.head.tw12430550909055144636 : True := trivial
theorem Mine.head.tw12460202669355646752 : True := trivial
theorem Mine.head.tw12475708393154427166 : True := trivial
theorem Mine.head.tw12583225685706671406 : True := trivial
theorem Mine.head.tw12704426703380559182 : True := trivial
theorem Mine.head.tw12756432100012035313 : True := trivial
theorem Mine.head.tw12763952150808568291 : True := trivial
theorem Mine.head.tw1276956409769668328 : True := trivial
theorem Mine.head.tw12773685731770592110 : True := trivial
theorem Mine.head.tw12775505166333009402 : True := trivial
theorem Mine.head.tw12820901002040952943 : True := trivial
theorem Mine.head.tw12822298378996975857 : True := trivial
theorem Mine.head.tw12824857690660426397 : True := trivial
theorem Mine.head.tw12830511450280361635 : True := trivial
theorem Mine.head.tw12836434396207881381 : True := trivial
theorem Mine.head.tw12841863872788715202 : True := trivial
theorem Mine.head.tw12851702773856589430 : True := trivial
theorem Mine.head.tw12865059321931465230 : True := trivial
theorem Mine.head.tw12870424476946447624 : True := trivial
theorem Mine.head.tw12903917746401883607 : True := trivial
theorem Mine.head.tw12987040726578829979 : True := trivial
theorem Mine.head.tw12998212659555988865 : True := trivial
theorem Mine.head.tw13031729630628281718 : True := trivial
theorem Mine.head.tw13114977260107808909 : True := trivial
theorem Mine.head.tw13154410178369794250 : True := trivial
theorem Mine.head.tw1315816938146588887 : True := trivial
theorem Mine.head.tw13180129090757240718 : True := trivial
theorem Mine.head.tw13199516396595161752 : True := trivial
theorem Mine.head.tw1319983325249436295 : True := trivial
theorem Mine.head.tw13246386896891170512 : True := trivial
theorem Mine.head.tw13294958713779813728 : True := trivial
theorem Mine.head.tw13295774097974887486 : True := trivial
theorem Mine.head.tw13329714247033688853 : True := trivial
theorem Mine.head.tw13349887611470776335 : True := trivial
theorem Mine.head.tw13353151263460963528 : True := trivial
theorem Mine.head.tw13412022041919118725 : True := trivial
theorem Mine.head.tw13419902464999305328 : True := trivial
theorem Mine.head.tw13508044439285423174 : True := trivial
theorem Mine.head.tw13510609219080548989 : True := trivial
theorem Mine.head.tw13585267454733459922 : True := trivial
theorem Mine.head.tw13605870324054321959 : True := trivial
theorem Mine.head.tw13637325136056909300 : True := trivial
theorem Mine.head.tw13689084217373910675 : True := trivial
theorem Mine.head.tw13743032657059413451 : True := trivial
theorem Mine.head.tw13864460233467909087 : True := trivial
theorem Mine.head.tw13882159969643600634 : True := trivial
theorem Mine.head.tw13888203208302971829 : True := trivial
theorem Mine.head.tw13896987355042952010 : True := trivial
theorem Mine.head.tw1389810093214676884 : True := trivial
theorem Mine.head.tw13942192884097748152 : True := trivial
theorem Mine.head.tw13954853420313727417 : True := trivial
theorem Mine.head.tw13955511503576765797 : True := trivial
theorem Mine.head.tw13986843968525588388 : True := trivial
theorem Mine.head.tw14028522991509751376 : True := trivial
theorem Mine.head.tw14061139507663348314 : True := trivial
theorem Mine.head.tw14087427124445129562 : True := trivial
theorem Mine.head.tw14112051064653734678 : True := trivial
theorem Mine.head.tw14139502460874162764 : True := trivial
theorem Mine.head.tw14145653219816572579 : True := trivial
theorem Mine.head.tw14177293489869586727 : True := trivial
theorem Mine.head.tw14205479233844494046 : True := trivial
theorem Mine.head.tw1429279165058954919 : True := trivial
theorem Mine.head.tw14385403278947933607 : True := trivial
theorem Mine.head.tw14393718171448925343 : True := trivial
theorem Mine.head.tw14417885227837004991 : True := trivial
theorem Mine.head.tw14425691864856114404 : True := trivial
theorem Mine.head.tw14432977821161478157 : True := trivial
theorem Mine.head.tw14472856534625579374 : True := trivial
theorem Mine.head.tw14512941343882779238 : True := trivial
theorem Mine.head.tw14625087872107173791 : True := trivial
theorem Mine.head.tw14633514788596799843 : True := trivial
theorem Mine.head.tw1463646239528298992 : True := trivial
theorem Mine.head.tw14643560169476415855 : True := trivial
theorem Mine.head.tw14667470093908496907 : True := trivial
theorem Mine.head.tw14676189674455941282 : True := trivial
theorem Mine.head.tw14679116673082234219 : True := trivial
theorem Mine.head.tw14720509044617813951 : True := trivial
theorem Mine.head.tw14744981736328886265 : True := trivial
theorem Mine.head.tw14752978181828129342 : True := trivial
theorem Mine.head.tw14842460003800876886 : True := trivial
theorem Mine.head.tw14877080517539528568 : True := trivial
theorem Mine.head.tw14882813523228863612 : True := trivial
theorem Mine.head.tw14883964547037435609 : True := trivial
theorem Mine.head.tw1488887377122669195 : True := trivial
theorem Mine.head.tw14900865423497919902 : True := trivial
theorem Mine.head.tw14943480678444902952 : True := trivial
theorem Mine.head.tw1495726902847802894 : True := trivial
theorem Mine.head.tw14969872817325187116 : True := trivial
theorem Mine.head.tw14982685227137828758 : True := trivial
theorem Mine.head.tw14999265807660949796 : True := trivial
theorem Mine.head.tw15035418422258542911 : True := trivial
theorem Mine.head.tw15037083628117588352 : True := trivial
theorem Mine.head.tw15064752311394979489 : True := trivial
theorem Mine.head.tw1506576300011279404 : True := trivial
theorem Mine.head.tw15091486752826498866 : True := trivial
theorem Mine.head.tw15112835437128306455 : True := trivial
theorem Mine.head.tw15149402430504572791 : True := trivial
theorem Mine.head.tw15204471325056678010 : True := trivial
theorem Mine.head.tw15253846138512369154 : True := trivial
theorem Mine.head.tw15296082917334920728 : True := trivial
theorem Mine.head.tw15436542981012472205 : True := trivial
theorem Mine.head.tw15459700671661405391 : True := trivial
theorem Mine.head.tw15468718075485040107 : True := trivial
theorem Mine.head.tw15506723302920939300 : True := trivial
theorem Mine.head.tw15510365090734361527 : True := trivial
theorem Mine.head.tw15524705166548879127 : True := trivial
theorem Mine.head.tw15539854500240908086 : True := trivial
theorem Mine.head.tw15700006548520733397 : True := trivial
theorem Mine.head.tw15735840784391694233 : True := trivial
theorem Mine.head.tw15782939476341012554 : True := trivial
theorem Mine.head.tw15785421084128741142 : True := trivial
theorem Mine.head.tw15798066900824788120 : True := trivial
theorem Mine.head.tw15841401105113185080 : True := trivial
theorem Mine.head.tw15894371620910866019 : True := trivial
theorem Mine.head.tw15895748673760503845 : True := trivial
theorem Mine.head.tw15974430059811079838 : True := trivial
theorem Mine.head.tw16014373381606645092 : True := trivial
theorem Mine.head.tw16031315777459398524 : True := trivial
theorem Mine.head.tw16072502192527678464 : True := trivial
theorem Mine.head.tw16106133796442146334 : True := trivial
theorem Mine.head.tw16128420640991077102 : True := trivial
theorem Mine.head.tw16172288393029767808 : True := trivial
theorem Mine.head.tw16172356507618199906 : True := trivial
theorem Mine.head.tw1618804561499322139 : True := trivial
theorem Mine.head.tw1620002657737552111 : True := trivial
theorem Mine.head.tw16318317666963600688 : True := trivial
theorem Mine.head.tw16330252680669295797 : True := trivial
theorem Mine.head.tw16406983249328947883 : True := trivial
theorem Mine.head.tw16441004959143088680 : True := trivial
theorem Mine.head.tw16443408561251100101 : True := trivial
theorem Mine.head.tw16484307994363974953 : True := trivial
theorem Mine.head.tw1671286509584063027 : True := trivial
theorem Mine.head.tw16714887947964762639 : True := trivial
theorem Mine.head.tw16739718814745446470 : True := trivial
theorem Mine.head.tw16779560617893534210 : True := trivial
theorem Mine.head.tw16782820856776367440 : True := trivial
theorem Mine.head.tw16800043278716471037 : True := trivial
theorem Mine.head.tw16817119741492734445 : True := trivial
theorem Mine.head.tw16847831306532103052 : True := trivial
theorem Mine.head.tw16894197260953374720 : True := trivial
theorem Mine.head.tw16922147877168347812 : True := trivial
theorem Mine.head.tw16984083398119652359 : True := trivial
theorem Mine.head.tw16997897962222511 : True := trivial
theorem Mine.head.tw17002534310236347988 : True := trivial
theorem Mine.head.tw17014734716931888790 : True := trivial
theorem Mine.head.tw17015032458148788900 : True := trivial
theorem Mine.head.tw17016181667166472378 : True := trivial
theorem Mine.head.tw1714602735852981970 : True := trivial
theorem Mine.head.tw17197444120159719569 : True := trivial
theorem Mine.head.tw17212568112599259466 : True := trivial
theorem Mine.head.tw17243387458012846398 : True := trivial
theorem Mine.head.tw17265401458761052179 : True := trivial
theorem Mine.head.tw17362218986543327160 : True := trivial
theorem Mine.head.tw17411354535832351560 : True := trivial
theorem Mine.head.tw17464823870196871000 : True := trivial
theorem Mine.head.tw1748456618969930982 : True := trivial
theorem Mine.head.tw17508272824862286709 : True := trivial
theorem Mine.head.tw17513103129775332898 : True := trivial
theorem Mine.head.tw17525636777796739105 : True := trivial
theorem Mine.head.tw17577399041416155939 : True := trivial
theorem Mine.head.tw17613924838136514698 : True := trivial
theorem Mine.head.tw17646911460466567920 : True := trivial
theorem Mine.head.tw17648268552764510013 : True := trivial
theorem Mine.head.tw17674571679781333832 : True := trivial
theorem Mine.head.tw17691269444961130570 : True := trivial
theorem Mine.head.tw17694210980959083098 : True := trivial
theorem Mine.head.tw17698105195316432488 : True := trivial
theorem Mine.head.tw17721704225363488110 : True := trivial
theorem Mine.head.tw17725469503822016867 : True := trivial
theorem Mine.head.tw17782148633632673465 : True := trivial
theorem Mine.head.tw17789423225533864492 : True := trivial
theorem Mine.head.tw17836260108008149386 : True := trivial
theorem Mine.head.tw17844492200522320778 : True := trivial
theorem Mine.head.tw17850378814381688901 : True := trivial
theorem Mine.head.tw17854896373637125580 : True := trivial
theorem Mine.head.tw17905491414393134947 : True := trivial
theorem Mine.head.tw17949276852818166186 : True := trivial
theorem Mine.head.tw17958272820484234708 : True := trivial
theorem Mine.head.tw18007968972792079559 : True := trivial
theorem Mine.head.tw181187938090224639 : True := trivial
theorem Mine.head.tw18123143868385100064 : True := trivial
theorem Mine.head.tw18141926227819551385 : True := trivial
theorem Mine.head.tw18202989766033351060 : True := trivial
theorem Mine.head.tw18312588684407217961 : True := trivial
theorem Mine.head.tw1832916270232011604 : True := trivial
theorem Mine.head.tw18375999222851292949 : True := trivial
theorem Mine.head.tw18384547517478447814 : True := trivial
theorem Mine.head.tw18397145594500292201 : True := trivial
theorem Mine.head.tw18416563613846182222 : True := trivial
theorem Mine.head.tw18433677622606106133 : True := trivial
theorem Mine.head.tw1852205218256702202 : True := trivial
theorem Mine.head.tw1909714482019496454 : True := trivial
theorem Mine.head.tw1916030044204650063 : True := trivial
theorem Mine.head.tw1992477944027644202 : True := trivial
theorem Mine.head.tw1992862871153497056 : True := trivial
theorem Mine.head.tw2040243426104640675 : True := trivial
theorem Mine.head.tw2078614453391903432 : True := trivial
theorem Mine.head.tw2096541523181747872 : True := trivial
theorem Mine.head.tw2154566216772986472 : True := trivial
theorem Mine.head.tw2158813243188474199 : True := trivial
theorem Mine.head.tw2237326684586592538 : True := trivial
theorem Mine.head.tw2249667046024356820 : True := trivial
theorem Mine.head.tw2326617092838664518 : True := trivial
theorem Mine.head.tw2340069552987342377 : True := trivial
theorem Mine.head.tw2355103038987944067 : True := trivial
theorem Mine.head.tw2400818531096893172 : True := trivial
theorem Mine.head.tw2483590981736569835 : True := trivial
theorem Mine.head.tw2491421050496283774 : True := trivial
theorem Mine.head.tw2494867037650129335 : True := trivial
theorem Mine.head.tw2506711637615833298 : True := trivial
theorem Mine.head.tw2525317073905713282 : True := trivial
theorem Mine.head.tw2529948359932261575 : True := trivial
theorem Mine.head.tw2554682012703037696 : True := trivial
theorem Mine.head.tw2591067827882107080 : True := trivial
theorem Mine.head.tw2611935402230173564 : True := trivial
theorem Mine.head.tw2676128329259237583 : True := trivial
theorem Mine.head.tw2879759524354350568 : True := trivial
theorem Mine.head.tw2994366008111725845 : True := trivial
theorem Mine.head.tw300626226527484142 : True := trivial
theorem Mine.head.tw3083302935323014018 : True := trivial
theorem Mine.head.tw3088210815446039105 : True := trivial
theorem Mine.head.tw3089916443595474862 : True := trivial
theorem Mine.head.tw315434073420411817 : True := trivial
theorem Mine.head.tw3160712208675142370 : True := trivial
theorem Mine.head.tw32155578849046825 : True := trivial
theorem Mine.head.tw3219859135671012420 : True := trivial
theorem Mine.head.tw3304075619188804072 : True := trivial
theorem Mine.head.tw3306014811536218513 : True := trivial
theorem Mine.head.tw3368030927266983236 : True := trivial
theorem Mine.head.tw3387175370551243563 : True := trivial
theorem Mine.head.tw3408912560995172562 : True := trivial
theorem Mine.head.tw3413685926693888854 : True := trivial
theorem Mine.head.tw3453547403478019728 : True := trivial
theorem Mine.head.tw3496171461512900480 : True := trivial
theorem Mine.head.tw3501597964444990463 : True := trivial
theorem Mine.head.tw3512634313551410195 : True := trivial
theorem Mine.head.tw3547030090768783262 : True := trivial
theorem Mine.head.tw3547240966391284428 : True := trivial
theorem Mine.head.tw3615648651819825313 : True := trivial
theorem Mine.head.tw3657469849614111797 : True := trivial
theorem Mine.head.tw3676257842073002878 : True := trivial
theorem Mine.head.tw3688799982635324794 : True := trivial
theorem Mine.head.tw3690969761935527329 : True := trivial
theorem Mine.head.tw3715584954343283195 : True := trivial
theorem Mine.head.tw3746228215898030841 : True := trivial
theorem Mine.head.tw3749026756887285471 : True := trivial
theorem Mine.head.tw3772244942691199965 : True := trivial
theorem Mine.head.tw3784556404427131425 : True := trivial
theorem Mine.head.tw3794523003379204399 : True := trivial
theorem Mine.head.tw3926256999705401684 : True := trivial
theorem Mine.head.tw3944913497352057107 : True := trivial
theorem Mine.head.tw3980653432952411973 : True := trivial
theorem Mine.head.tw3986194592780655508 : True := trivial
theorem Mine.head.tw4063747431996464497 : True := trivial
theorem Mine.head.tw4160124254940468481 : True := trivial
theorem Mine.head.tw4185835636816635120 : True := trivial
theorem Mine.head.tw4196546014268931301 : True := trivial
theorem Mine.head.tw4300572477801127989 : True := trivial
theorem Mine.head.tw4307260679431091991 : True := trivial
theorem Mine.head.tw4311042196063409733 : True := trivial
theorem Mine.head.tw4381510469713062047 : True := trivial
theorem Mine.head.tw4433315090154635215 : True := trivial
theorem Mine.head.tw44622916816846810 : True := trivial
theorem Mine.head.tw45052839361067614 : True := trivial
theorem Mine.head.tw4607607821588926596 : True := trivial
theorem Mine.head.tw4648074632519319735 : True := trivial
theorem Mine.head.tw466721876749952763 : True := trivial
theorem Mine.head.tw4693820183103290663 : True := trivial
theorem Mine.head.tw4703565691729855502 : True := trivial
theorem Mine.head.tw4709128311485490483 : True := trivial
theorem Mine.head.tw4746297304354101679 : True := trivial
theorem Mine.head.tw4839655697589452165 : True := trivial
theorem Mine.head.tw4844655192941003695 : True := trivial
theorem Mine.head.tw4945251732147069371 : True := trivial
theorem Mine.head.tw4947566427324800218 : True := trivial
theorem Mine.head.tw4965378191221513410 : True := trivial
theorem Mine.head.tw496868785162813753 : True := trivial
theorem Mine.head.tw4972248218790579157 : True := trivial
theorem Mine.head.tw497287684792784471 : True := trivial
theorem Mine.head.tw4975070653579243887 : True := trivial
theorem Mine.head.tw4976181008148175253 : True := trivial
theorem Mine.head.tw5015311536963163689 : True := trivial
theorem Mine.head.tw5065884974122983256 : True := trivial
theorem Mine.head.tw5104563664521345299 : True := trivial
theorem Mine.head.tw5140934472235413692 : True := trivial
theorem Mine.head.tw5319049981483164881 : True := trivial
theorem Mine.head.tw532055438628499158 : True := trivial
theorem Mine.head.tw533756555076263647 : True := trivial
theorem Mine.head.tw5346772772824661884 : True := trivial
theorem Mine.head.tw5401097623525119610 : True := trivial
theorem Mine.head.tw5438144065070405397 : True := trivial
theorem Mine.head.tw5479459121986351116 : True := trivial
theorem Mine.head.tw5483443276579115730 : True := trivial
theorem Mine.head.tw5487235932777146282 : True := trivial
theorem Mine.head.tw5507133844067935933 : True := trivial
theorem Mine.head.tw5515381820778694223 : True := trivial
theorem Mine.head.tw5569992402112668024 : True := trivial
theorem Mine.head.tw5593727005144783397 : True := trivial
theorem Mine.head.tw5599997604879368025 : True := trivial
theorem Mine.head.tw5617373736292572815 : True := trivial
theorem Mine.head.tw5638995163158488052 : True := trivial
theorem Mine.head.tw5651425540991249520 : True := trivial
theorem Mine.head.tw5723944856813171866 : True := trivial
theorem Mine.head.tw5737951250597237232 : True := trivial
theorem Mine.head.tw5797013207949663412 : True := trivial
theorem Mine.head.tw5867460780676386079 : True := trivial
theorem Mine.head.tw5870146547769353613 : True := trivial
theorem Mine.head.tw5889021280877657681 : True := trivial
theorem Mine.head.tw5906749814970224870 : True := trivial
theorem Mine.head.tw5927865893512547691 : True := trivial
theorem Mine.head.tw5935280240621264173 : True := trivial
theorem Mine.head.tw5973763720392745831 : True := trivial
theorem Mine.head.tw604627371996746742 : True := trivial
theorem Mine.head.tw6053349399257934933 : True := trivial
theorem Mine.head.tw6085824867444503733 : True := trivial
theorem Mine.head.tw6088685845774392931 : True := trivial
theorem Mine.head.tw6089950782880144567 : True := trivial
theorem Mine.head.tw6100774026682323163 : True := trivial
theorem Mine.head.tw6110071263904590700 : True := trivial
theorem Mine.head.tw6121141971511671821 : True := trivial
theorem Mine.head.tw6161856959107265637 : True := trivial
theorem Mine.head.tw6183551512144038020 : True := trivial
theorem Mine.head.tw6202090305015876224 : True := trivial
theorem Mine.head.tw6211381574409162282 : True := trivial
theorem Mine.head.tw6217066452294943225 : True := trivial
theorem Mine.head.tw6507506987150044280 : True := trivial
theorem Mine.head.tw6587087628758450585 : True := trivial
theorem Mine.head.tw6588589085864783938 : True := trivial
theorem Mine.head.tw6630172312940548113 : True := trivial
theorem Mine.head.tw6640010369347007910 : True := trivial
theorem Mine.head.tw6684978435548883818 : True := trivial
theorem Mine.head.tw6737735255597943219 : True := trivial
theorem Mine.head.tw6803605276785716568 : True := trivial
theorem Mine.head.tw6836605351468522007 : True := trivial
theorem Mine.head.tw6846597200999610202 : True := trivial
theorem Mine.head.tw6857060684267632606 : True := trivial
theorem Mine.head.tw6880043348581005364 : True := trivial
theorem Mine.head.tw6894476249723787837 : True := trivial
theorem Mine.head.tw6973584914630602586 : True := trivial
theorem Mine.head.tw6984614943176342567 : True := trivial
theorem Mine.head.tw7013799640231393816 : True := trivial
theorem Mine.head.tw7055862646019118517 : True := trivial
theorem Mine.head.tw7090939061502383884 : True := trivial
theorem Mine.head.tw7119846925741900413 : True := trivial
theorem Mine.head.tw7172824961504158171 : True := trivial
theorem Mine.head.tw7253898381062576733 : True := trivial
theorem Mine.head.tw7277520189549225825 : True := trivial
theorem Mine.head.tw733406405333840765 : True := trivial
theorem Mine.head.tw7404141018258913797 : True := trivial
theorem Mine.head.tw7506892168612780884 : True := trivial
theorem Mine.head.tw7526775705450560304 : True := trivial
theorem Mine.head.tw7598917822366959424 : True := trivial
theorem Mine.head.tw7661765248129044261 : True := trivial
theorem Mine.head.tw7704315382344345624 : True := trivial
theorem Mine.head.tw7758381527925395934 : True := trivial
theorem Mine.head.tw7789450098604059249 : True := trivial
theorem Mine.head.tw7821361960523482326 : True := trivial
theorem Mine.head.tw7833285031277912329 : True := trivial
theorem Mine.head.tw7928285938522686346 : True := trivial
theorem Mine.head.tw7945727769302929742 : True := trivial
theorem Mine.head.tw7994106446794305319 : True := trivial
theorem Mine.head.tw8041791342521497567 : True := trivial
theorem Mine.head.tw807142644699662319 : True := trivial
theorem Mine.head.tw8097174177036852075 : True := trivial
theorem Mine.head.tw8098834901335500536 : True := trivial
theorem Mine.head.tw8101760021730824546 : True := trivial
theorem Mine.head.tw8169693465737517768 : True := trivial
theorem Mine.head.tw8185714761375850791 : True := trivial
theorem Mine.head.tw8187629637223713605 : True := trivial
theorem Mine.head.tw820421773197932041 : True := trivial
theorem Mine.head.tw8216097648270762014 : True := trivial
theorem Mine.head.tw8216834362191484069 : True := trivial
theorem Mine.head.tw8299393411229908732 : True := trivial
theorem Mine.head.tw8352202277992155772 : True := trivial
theorem Mine.head.tw8382746154173761051 : True := trivial
theorem Mine.head.tw8402214883040486957 : True := trivial
theorem Mine.head.tw8414573866900348196 : True := trivial
theorem Mine.head.tw8451290768687142514 : True := trivial
theorem Mine.head.tw8476099583838051002 : True := trivial
theorem Mine.head.tw851385035628625539 : True := trivial
theorem Mine.head.tw8535708456716222715 : True := trivial
theorem Mine.head.tw8773370040425892893 : True := trivial
theorem Mine.head.tw8780344314957385245 : True := trivial
theorem Mine.head.tw8825185529548867496 : True := trivial
theorem Mine.head.tw8866670633112419022 : True := trivial
theorem Mine.head.tw8874674299285249911 : True := trivial
theorem Mine.head.tw8912104118211102971 : True := trivial
theorem Mine.head.tw8928023225330563168 : True := trivial
theorem Mine.head.tw8997269238129315039 : True := trivial
theorem Mine.head.tw9074772780463953568 : True := trivial
theorem Mine.head.tw9082462177598256812 : True := trivial
theorem Mine.head.tw9083612298779875492 : True := trivial
theorem Mine.head.tw9101448428047585222 : True := trivial
theorem Mine.head.tw9114333099845857663 : True := trivial
theorem Mine.head.tw9137385064045434352 : True := trivial
theorem Mine.head.tw9162278640276766204 : True := trivial
theorem Mine.head.tw9186546921256032858 : True := trivial
theorem Mine.head.tw9196398404247428943 : True := trivial
theorem Mine.head.tw9245693889144939377 : True := trivial
theorem Mine.head.tw9280153536138602973 : True := trivial
theorem Mine.head.tw930087139818521243 : True := trivial
theorem Mine.head.tw9325057278558614444 : True := trivial
theorem Mine.head.tw9388430590476628193 : True := trivial
theorem Mine.head.tw9464831228461672588 : True := trivial
theorem Mine.head.tw9515422150858430662 : True := trivial
theorem Mine.head.tw9592777112578238593 : True := trivial
theorem Mine.head.tw9658139154387788515 : True := trivial
theorem Mine.head.tw9702098958229961203 : True := trivial
theorem Mine.head.tw9716329373054682134 : True := trivial
theorem Mine.head.tw976808484645153763 : True := trivial
theorem Mine.head.tw9870071354389940754 : True := trivial
theorem Mine.head.tw9887236137011394623 : True := trivial
theorem Mine.head.tw9934530448476252742 : True := trivial
theorem Mine.head.tw9950410520057996621 : True := trivial
theorem Mine.head.tw9978949632667528635 : True := trivial
theorem Mine.head.tw9987851973559822609 : True := trivial
open PySem PySem.W PyProof.Rows PySem.Calls PySem.Spec
set_option maxRecDepth 100000 in
set_option maxHeartbeats 8000000 in
theorem Mine.head : PySem.Challenge.rw_il0089_01.Holds := by
  k_with_none
  w_on; o_law; o_head (kmHook Mine.K Mine.Kas (fun _ => by kernel_rfl) [71]); (case hw => w_witness2)
  w_strict (k_go0; refine Mine.c_law _ _ _ _ _ _ _ _ _ _ _ _ _ _ _ _ (by assumption) (by assumption) (by assumption) (by assumption) (by assumption) (by assumption) (by omega) (by assumption) ?_; intro st' h9 tk9 m9 hst9 F9 N9; refine ⟨?_, ?_, True.intro⟩; (case refine_2 => (cases st' <;> exact ⟨_, (N9 _ (.head _)).1⟩)); k_steps)
end
theorem PySem.Challenge.cw_il0089_01_holds : PySem.Challenge.rw_il0089_01.Holds :=
  Mine.head
