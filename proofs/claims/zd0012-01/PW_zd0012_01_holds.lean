import PyProof.Rows.All
import Wide.All
import OpenK.AllK
import Wide.FinOn
import KE.KSlice
import KE.KDictList
import KE.KEqDict
import KE.KIntText
import PySem.Challenge.RW_zd0012_01
set_option Elab.async false
set_option maxRecDepth 100000
set_option maxHeartbeats 8000000
set_option linter.unusedVariables false

namespace Zd
open PySem PySem.W PyProof.Rows

abbrev P0 : Program := PySem.Challenge.pw_zd0012_01
def st (i : Nat) : Stmt := (P0.main.body[i]?).getD (.Pass default)
def cBody : Stmt → List Stmt
  | .ClassDef _ _ _ b _ _ _ _ _ _ _ => b
  | _ => []
def cst (i : Nat) : Stmt := ((cBody (st 17))[i]?).getD (.Pass default)
def fParams : Stmt → Arguments
  | .FunctionDef _ a _ _ _ _ _ _ _ _ => a
  | _ => default
def fBody : Stmt → List Stmt
  | .FunctionDef _ _ b _ _ _ _ _ _ _ => b
  | _ => []
def fScope : Stmt → Scope
  | .FunctionDef _ _ _ _ _ _ sc _ _ _ => sc
  | _ => default

def c9ents (j : Nat) : Array (Int × Value) := ((917505, .int 917505 347) :: (List.range (j - 1)).map fun (i : Nat) => ((917536 + (i : Int)), Value.int (917536 + (i : Int)) (353 + i))).toArray
def c9plc (j : Nat) : Array Nat := (1 :: (List.range (j - 1)).map fun i => 32 + i).toArray
abbrev c9entries : Array (Int × Value) := c9ents 97
abbrev c9places : Array Nat := c9plc 97
def o3 (P : Params) : Obj := ⟨.type "dict", none, .dict #[⟨PyData.keyHash P (Str.ofString "__name__"), .str (Str.ofString "__name__") 165, .str (Str.ofString "law_zd0012_01") 839⟩, ⟨PyData.keyHash P (Str.ofString "__doc__"), .str (Str.ofString "__doc__") 166, .none⟩, ⟨PyData.keyHash P (Str.ofString "__package__"), .str (Str.ofString "__package__") 167, .none⟩, ⟨PyData.keyHash P (Str.ofString "__loader__"), .str (Str.ofString "__loader__") 168, .builtin "__main__.__loader__#opaque"⟩, ⟨PyData.keyHash P (Str.ofString "__spec__"), .str (Str.ofString "__spec__") 169, .none⟩, ⟨PyData.keyHash P (Str.ofString "__annotations__"), .str (Str.ofString "__annotations__") 170, .ref 6⟩, ⟨PyData.keyHash P (Str.ofString "__builtins__"), .str (Str.ofString "__builtins__") 171, .ref 4⟩, ⟨PyData.keyHash P (Str.ofString "__file__"), .str (Str.ofString "__file__") 173, .str (Str.ofString "/claim/cut.py") 172⟩, ⟨PyData.keyHash P (Str.ofString "__cached__"), .str (Str.ofString "__cached__") 174, .none⟩, ⟨PyData.keyHash P (Str.ofString "_sre"), .str (Str.ofString "_sre") 275, .ref 12⟩, ⟨PyData.keyHash P (Str.ofString "_wall"), .str (Str.ofString "_wall") 288, .ref 38⟩, ⟨PyData.keyHash P (Str.ofString "c6_set"), .str (Str.ofString "c6_set") 304, .ref 40⟩, ⟨PyData.keyHash P (Str.ofString "in_table_c6"), .str (Str.ofString "in_table_c6") 311, .ref 50⟩, ⟨PyData.keyHash P (Str.ofString "c7_set"), .str (Str.ofString "c7_set") 339, .ref 52⟩, ⟨PyData.keyHash P (Str.ofString "in_table_c7"), .str (Str.ofString "in_table_c7") 346, .ref 62⟩, ⟨PyData.keyHash P (Str.ofString "c9_set"), .str (Str.ofString "c9_set") 546, .ref 70⟩, ⟨PyData.keyHash P (Str.ofString "in_table_c9"), .str (Str.ofString "in_table_c9") 553, .ref 80⟩, ⟨PyData.keyHash P (Str.ofString "add_callers"), .str (Str.ofString "add_callers") 566, .ref 87⟩, ⟨PyData.keyHash P (Str.ofString "count_calls"), .str (Str.ofString "count_calls") 575, .ref 94⟩, ⟨PyData.keyHash P (Str.ofString "tspecials"), .str (Str.ofString "tspecials") 611, .ref 99⟩, ⟨PyData.keyHash P (Str.ofString "_name_disallowed_re"), .str (Str.ofString "_name_disallowed_re") 637, .ref 104⟩, ⟨PyData.keyHash P (Str.ofString "_value_disallowed_re"), .str (Str.ofString "_value_disallowed_re") 671, .ref 109⟩, ⟨PyData.keyHash P (Str.ofString "_formatparam"), .str (Str.ofString "_formatparam") 681, .ref 117⟩, ⟨PyData.keyHash P (Str.ofString "Headers"), .str (Str.ofString "Headers") 838, .ref 238⟩, ⟨PyData.keyHash P (Str.ofString "_law_sign"), .str (Str.ofString "_law_sign") 849, .ref 249⟩, ⟨PyData.keyHash P (Str.ofString "_law_grown"), .str (Str.ofString "_law_grown") 855, .ref 254⟩, ⟨PyData.keyHash P (Str.ofString "_law_by_places"), .str (Str.ofString "_law_by_places") 861, .ref 259⟩, ⟨PyData.keyHash P (Str.ofString "_law_laid_together"), .str (Str.ofString "_law_laid_together") 867, .ref 264⟩, ⟨PyData.keyHash P (Str.ofString "_law_ways"), .str (Str.ofString "_law_ways") 880, .ref 271⟩, ⟨PyData.keyHash P (Str.ofString "law"), .str (Str.ofString "law") 886, .ref 276⟩] 30, #[]⟩
def o40 (P : Params) : Obj := ⟨.type "set", none, .set #[(65529, .int (65529) 294), (65530, .int (65530) 296), (65531, .int (65531) 298), (65532, .int (65532) 300), (65533, .int (65533) 302)] 6 ⟨31, #[25, 26, 27, 28, 29], #[], 0, !P.followText "set-order", 1, true⟩, #[]⟩
def o49 (P : Params) : Obj := ⟨.type "code", none, .fields #[.str (Str.ofString "in_table_c6") 305, .str (Str.ofString "in_table_c6") 306, .str (Str.ofString "/claim/cut.py") 307, .int (7) 0, .int (1) 0, .int (0) 0, .int (0) 0, .int (3) 0, .ref 44, .bool true, .int (276) 0, .ref 45, .none, .ref 46, .ref 47, .ref 48, .int (309) 0, .int (7) 0, .str (Str.ofString "/claim/cut.py") 310], #[]⟩
def o50 (P : Params) : Obj := ⟨.type "function", none, .func ⟨(Str.ofString "in_table_c6"), (Str.ofString "in_table_c6"), fParams (st 4), .stmts (fBody (st 4)), fScope (st 4), 3, [], .none, .none, .none, .str (Str.ofString "cpy313.stringprep") 289, none, .ref 49, .none, 0⟩, #[]⟩
def o52 (P : Params) : Obj := ⟨.type "set", none, .set #[(12272, .int (12272) 315), (12273, .int (12273) 317), (12274, .int (12274) 319), (12275, .int (12275) 321), (12276, .int (12276) 323), (12277, .int (12277) 325), (12278, .int (12278) 327), (12279, .int (12279) 329), (12280, .int (12280) 331), (12281, .int (12281) 333), (12282, .int (12282) 335), (12283, .int (12283) 337)] 13 ⟨31, #[16, 17, 18, 19, 20, 21, 22, 23, 24, 25, 26, 27], #[], 0, !P.followText "set-order", 1, true⟩, #[]⟩
def o61 (P : Params) : Obj := ⟨.type "code", none, .fields #[.str (Str.ofString "in_table_c7") 340, .str (Str.ofString "in_table_c7") 341, .str (Str.ofString "/claim/cut.py") 342, .int (10) 0, .int (1) 0, .int (0) 0, .int (0) 0, .int (3) 0, .ref 56, .bool true, .int (276) 0, .ref 57, .none, .ref 58, .ref 59, .ref 60, .int (344) 0, .int (10) 0, .str (Str.ofString "/claim/cut.py") 345], #[]⟩
def o62 (P : Params) : Obj := ⟨.type "function", none, .func ⟨(Str.ofString "in_table_c7"), (Str.ofString "in_table_c7"), fParams (st 6), .stmts (fBody (st 6)), fScope (st 6), 3, [], .none, .none, .none, .str (Str.ofString "cpy313.stringprep") 289, none, .ref 61, .none, 0⟩, #[]⟩
def o70 (P : Params) : Obj := ⟨.type "set", none, .set c9entries 100 ⟨511, c9places, #[], 0, !P.followText "set-order", 3, true⟩, #[]⟩
def o79 (P : Params) : Obj := ⟨.type "code", none, .fields #[.str (Str.ofString "in_table_c9") 547, .str (Str.ofString "in_table_c9") 548, .str (Str.ofString "/claim/cut.py") 549, .int (13) 0, .int (1) 0, .int (0) 0, .int (0) 0, .int (3) 0, .ref 74, .bool true, .int (276) 0, .ref 75, .none, .ref 76, .ref 77, .ref 78, .int (551) 0, .int (13) 0, .str (Str.ofString "/claim/cut.py") 552], #[]⟩
def o80 (P : Params) : Obj := ⟨.type "function", none, .func ⟨(Str.ofString "in_table_c9"), (Str.ofString "in_table_c9"), fParams (st 8), .stmts (fBody (st 8)), fScope (st 8), 3, [], .none, .none, .none, .str (Str.ofString "cpy313.stringprep") 289, none, .ref 79, .none, 0⟩, #[]⟩
def o86 (P : Params) : Obj := ⟨.type "code", none, .fields #[.str (Str.ofString "add_callers") 556, .str (Str.ofString "add_callers") 557, .str (Str.ofString "/claim/cut.py") 558, .int (16) 0, .int (2) 0, .int (0) 0, .int (0) 0, .int (3) 0, .ref 81, .bool true, .int (276) 0, .ref 82, .none, .ref 83, .ref 84, .ref 85, .int (564) 0, .int (16) 0, .str (Str.ofString "/claim/cut.py") 565], #[]⟩
def o87 (P : Params) : Obj := ⟨.type "function", none, .func ⟨(Str.ofString "add_callers"), (Str.ofString "add_callers"), fParams (st 10), .stmts (fBody (st 10)), fScope (st 10), 3, [], .none, .none, .none, .str (Str.ofString "cpy313.pstats") 554, none, .ref 86, .none, 0⟩, #[]⟩
def o93 (P : Params) : Obj := ⟨.type "code", none, .fields #[.str (Str.ofString "count_calls") 567, .str (Str.ofString "count_calls") 568, .str (Str.ofString "/claim/cut.py") 569, .int (29) 0, .int (1) 0, .int (0) 0, .int (0) 0, .int (3) 0, .ref 88, .bool true, .int (276) 0, .ref 89, .none, .ref 90, .ref 91, .ref 92, .int (573) 0, .int (29) 0, .str (Str.ofString "/claim/cut.py") 574], #[]⟩
def o94 (P : Params) : Obj := ⟨.type "function", none, .func ⟨(Str.ofString "count_calls"), (Str.ofString "count_calls"), fParams (st 11), .stmts (fBody (st 11)), fScope (st 11), 3, [], .none, .none, .none, .str (Str.ofString "cpy313.pstats") 554, none, .ref 93, .none, 0⟩, #[]⟩
def o103 (P : Params) : Obj := ⟨.type "tuple", none, .seq #[.int (14) 0, .int (10) 0, .int (4) 0, .int (1) 0, .int (1) 0, .int (22) 0, .int (0) 0, .int (31) 0, .int (16) 0, .int (127) 0, .int (0) 0, .int (13) 0, .int (7) 0, .int (22) 0, .int (0) 0, .int (31) 0, .int (16) 0, .int (127) 0, .int (0) 0, .int (1) 0] 0, #[]⟩
def o104 (P : Params) : Obj := ⟨.type "re.Pattern", none, .fields #[.str (Str.ofString "[\\x00-\\x1F\\x7F]") 613, .int (32) 636, .int (0) 0, .none, .none, .ref 103, .int (0) 0], #[]⟩
def o108 (P : Params) : Obj := ⟨.type "tuple", none, .seq #[.int (14) 0, .int (14) 0, .int (4) 0, .int (1) 0, .int (1) 0, .int (9) 0, .int (4294966783) 0, .int (0) 0, .int (0) 0, .int (2147483648) 0, .int (0) 0, .int (0) 0, .int (0) 0, .int (0) 0, .int (0) 0, .int (13) 0, .int (11) 0, .int (9) 0, .int (4294966783) 0, .int (0) 0, .int (0) 0, .int (2147483648) 0, .int (0) 0, .int (0) 0, .int (0) 0, .int (0) 0, .int (0) 0, .int (1) 0] 0, #[]⟩
def o109 (P : Params) : Obj := ⟨.type "re.Pattern", none, .fields #[.str (Str.ofString "[\\x00-\\x08\\x0A-\\x1F\\x7F]") 639, .int (32) 670, .int (0) 0, .none, .none, .ref 108, .int (0) 0], #[]⟩
def o125 (P : Params) : Obj := ⟨.type "tuple", none, .seq #[.none] 0, #[]⟩
def o131 (P : Params) : Obj := ⟨.type "code", none, .fields #[.str (Str.ofString "__init__") 694, .str (Str.ofString "Headers.__init__") 695, .str (Str.ofString "/claim/cut.py") 696, .int (49) 0, .int (2) 0, .int (0) 0, .int (0) 0, .int (3) 0, .ref 126, .bool true, .int (276) 0, .ref 127, .none, .ref 128, .ref 129, .ref 130, .int (701) 0, .int (49) 0, .str (Str.ofString "/claim/cut.py") 702], #[]⟩
def o132 (P : Params) : Obj := ⟨.type "function", none, .func ⟨(Str.ofString "__init__"), (Str.ofString "Headers.__init__"), fParams (cst 0), .stmts (fBody (cst 0)), fScope (cst 0), 3, [], .ref 125, .none, .none, .str (Str.ofString "cpy313.wsgiref.headers") 576, none, .ref 131, .none, 0⟩, #[]⟩
def o138 (P : Params) : Obj := ⟨.type "code", none, .fields #[.str (Str.ofString "_convert_string_type") 704, .str (Str.ofString "Headers._convert_string_type") 705, .str (Str.ofString "/claim/cut.py") 706, .int (59) 0, .int (2) 0, .int (0) 0, .int (1) 0, .int (3) 0, .ref 133, .bool true, .int (276) 0, .ref 134, .none, .ref 135, .ref 136, .ref 137, .int (711) 0, .int (59) 0, .str (Str.ofString "/claim/cut.py") 712], #[]⟩
def o139 (P : Params) : Obj := ⟨.type "function", none, .func ⟨(Str.ofString "_convert_string_type"), (Str.ofString "Headers._convert_string_type"), fParams (cst 1), .stmts (fBody (cst 1)), fScope (cst 1), 3, [], .none, .none, .none, .str (Str.ofString "cpy313.wsgiref.headers") 576, none, .ref 138, .none, 0⟩, #[]⟩
def o176 (P : Params) : Obj := ⟨.type "code", none, .fields #[.str (Str.ofString "get_all") 752, .str (Str.ofString "Headers.get_all") 753, .str (Str.ofString "/claim/cut.py") 754, .int (84) 0, .int (2) 0, .int (0) 0, .int (0) 0, .int (3) 0, .ref 173, .bool true, .int (276) 0, .ref 174, .none, .none, .none, .ref 175, .int (755) 0, .int (84) 0, .str (Str.ofString "/claim/cut.py") 756], #[]⟩
def o177 (P : Params) : Obj := ⟨.type "function", none, .func ⟨(Str.ofString "get_all"), (Str.ofString "Headers.get_all"), fParams (cst 7), .stmts (fBody (cst 7)), fScope (cst 7), 3, [], .none, .none, .none, .str (Str.ofString "cpy313.wsgiref.headers") 576, none, .ref 176, .none, 0⟩, #[]⟩
def o234 (P : Params) : Obj := ⟨.type "code", none, .fields #[.str (Str.ofString "add_header") 817, .str (Str.ofString "Headers.add_header") 818, .str (Str.ofString "/claim/cut.py") 819, .int (116) 0, .int (3) 0, .int (0) 0, .int (0) 0, .int (11) 0, .ref 229, .bool true, .int (276) 0, .ref 230, .none, .ref 231, .ref 232, .ref 233, .int (827) 0, .int (116) 0, .str (Str.ofString "/claim/cut.py") 828], #[]⟩
def o235 (P : Params) : Obj := ⟨.type "function", none, .func ⟨(Str.ofString "add_header"), (Str.ofString "Headers.add_header"), fParams (cst 16), .stmts (fBody (cst 16)), fScope (cst 16), 3, [], .none, .none, .none, .str (Str.ofString "cpy313.wsgiref.headers") 576, none, .ref 234, .none, 0⟩, #[]⟩
def o237 (P : Params) : Obj := ⟨.type "dict", none, .dict #[⟨PyData.keyHash P (Str.ofString "__module__"), .str (Str.ofString "__module__") 689, .str (Str.ofString "cpy313.wsgiref.headers") 576⟩, ⟨PyData.keyHash P (Str.ofString "__firstlineno__"), .str (Str.ofString "__firstlineno__") 693, .int (47) 692⟩, ⟨PyData.keyHash P (Str.ofString "__init__"), .str (Str.ofString "__init__") 703, .ref 132⟩, ⟨PyData.keyHash P (Str.ofString "_convert_string_type"), .str (Str.ofString "_convert_string_type") 713, .ref 139⟩, ⟨PyData.keyHash P (Str.ofString "__len__"), .str (Str.ofString "__len__") 720, .ref 146⟩, ⟨PyData.keyHash P (Str.ofString "__setitem__"), .str (Str.ofString "__setitem__") 729, .ref 153⟩, ⟨PyData.keyHash P (Str.ofString "__delitem__"), .str (Str.ofString "__delitem__") 735, .ref 158⟩, ⟨PyData.keyHash P (Str.ofString "__getitem__"), .str (Str.ofString "__getitem__") 743, .ref 165⟩, ⟨PyData.keyHash P (Str.ofString "__contains__"), .str (Str.ofString "__contains__") 751, .ref 172⟩, ⟨PyData.keyHash P (Str.ofString "get_all"), .str (Str.ofString "get_all") 757, .ref 177⟩, ⟨PyData.keyHash P (Str.ofString "get"), .str (Str.ofString "get") 768, .ref 185⟩, ⟨PyData.keyHash P (Str.ofString "keys"), .str (Str.ofString "keys") 774, .ref 190⟩, ⟨PyData.keyHash P (Str.ofString "values"), .str (Str.ofString "values") 780, .ref 195⟩, ⟨PyData.keyHash P (Str.ofString "items"), .str (Str.ofString "items") 787, .ref 202⟩, ⟨PyData.keyHash P (Str.ofString "__repr__"), .str (Str.ofString "__repr__") 794, .ref 209⟩, ⟨PyData.keyHash P (Str.ofString "__str__"), .str (Str.ofString "__str__") 800, .ref 214⟩, ⟨PyData.keyHash P (Str.ofString "__bytes__"), .str (Str.ofString "__bytes__") 807, .ref 221⟩, ⟨PyData.keyHash P (Str.ofString "setdefault"), .str (Str.ofString "setdefault") 816, .ref 228⟩, ⟨PyData.keyHash P (Str.ofString "add_header"), .str (Str.ofString "add_header") 829, .ref 235⟩, ⟨PyData.keyHash P (Str.ofString "__static_attributes__"), .str (Str.ofString "__static_attributes__") 831, .ref 236⟩, ⟨PyData.keyHash P (Str.ofString "__dict__"), .str (Str.ofString "__dict__") 833, .ref 239⟩, ⟨PyData.keyHash P (Str.ofString "__weakref__"), .str (Str.ofString "__weakref__") 835, .ref 240⟩, ⟨PyData.keyHash P (Str.ofString "__doc__"), .str (Str.ofString "__doc__") 836, .none⟩] 4, #[]⟩
def o238 (P : Params) : Obj := ⟨.type "type", none, .cls ⟨(Str.ofString "Headers"), [.type "object"], [.ref 238, .type "object"], 237, (Str.ofString "Headers"), true, [], [], false, none, false⟩, #[none, none, some (.str (Str.ofString "Headers") 682), some (.str (Str.ofString "Headers") 690), some (.builtin "object.__new__"), some (.bool true)]⟩
def o248 (P : Params) : Obj := ⟨.type "code", none, .fields #[.str (Str.ofString "_law_sign") 841, .str (Str.ofString "_law_sign") 842, .str (Str.ofString "/claim/cut.py") 843, .int (130) 0, .int (1) 0, .int (0) 0, .int (0) 0, .int (3) 0, .ref 243, .bool true, .int (276) 0, .ref 244, .none, .ref 245, .ref 246, .ref 247, .int (847) 0, .int (130) 0, .str (Str.ofString "/claim/cut.py") 848], #[]⟩
def o249 (P : Params) : Obj := ⟨.type "function", none, .func ⟨(Str.ofString "_law_sign"), (Str.ofString "_law_sign"), fParams (st 19), .stmts (fBody (st 19)), fScope (st 19), 3, [], .none, .none, .none, .str (Str.ofString "law_zd0012_01") 839, none, .ref 248, .none, 0⟩, #[]⟩
def o253 (P : Params) : Obj := ⟨.type "code", none, .fields #[.str (Str.ofString "_law_grown") 850, .str (Str.ofString "_law_grown") 851, .str (Str.ofString "/claim/cut.py") 852, .int (142) 0, .int (2) 0, .int (0) 0, .int (0) 0, .int (3) 0, .ref 250, .bool true, .int (276) 0, .ref 251, .none, .none, .none, .ref 252, .int (853) 0, .int (142) 0, .str (Str.ofString "/claim/cut.py") 854], #[]⟩
def o254 (P : Params) : Obj := ⟨.type "function", none, .func ⟨(Str.ofString "_law_grown"), (Str.ofString "_law_grown"), fParams (st 20), .stmts (fBody (st 20)), fScope (st 20), 3, [], .none, .none, .none, .str (Str.ofString "law_zd0012_01") 839, none, .ref 253, .none, 0⟩, #[]⟩
def o258 (P : Params) : Obj := ⟨.type "code", none, .fields #[.str (Str.ofString "_law_by_places") 856, .str (Str.ofString "_law_by_places") 857, .str (Str.ofString "/claim/cut.py") 858, .int (144) 0, .int (2) 0, .int (0) 0, .int (0) 0, .int (3) 0, .ref 255, .bool true, .int (276) 0, .ref 256, .none, .none, .none, .ref 257, .int (859) 0, .int (144) 0, .str (Str.ofString "/claim/cut.py") 860], #[]⟩
def o259 (P : Params) : Obj := ⟨.type "function", none, .func ⟨(Str.ofString "_law_by_places"), (Str.ofString "_law_by_places"), fParams (st 21), .stmts (fBody (st 21)), fScope (st 21), 3, [], .none, .none, .none, .str (Str.ofString "law_zd0012_01") 839, none, .ref 258, .none, 0⟩, #[]⟩
def o263 (P : Params) : Obj := ⟨.type "code", none, .fields #[.str (Str.ofString "_law_laid_together") 862, .str (Str.ofString "_law_laid_together") 863, .str (Str.ofString "/claim/cut.py") 864, .int (152) 0, .int (2) 0, .int (0) 0, .int (0) 0, .int (3) 0, .ref 260, .bool true, .int (276) 0, .ref 261, .none, .none, .none, .ref 262, .int (865) 0, .int (152) 0, .str (Str.ofString "/claim/cut.py") 866], #[]⟩
def o264 (P : Params) : Obj := ⟨.type "function", none, .func ⟨(Str.ofString "_law_laid_together"), (Str.ofString "_law_laid_together"), fParams (st 22), .stmts (fBody (st 22)), fScope (st 22), 3, [], .none, .none, .none, .str (Str.ofString "law_zd0012_01") 839, none, .ref 263, .none, 0⟩, #[]⟩
def o270 (P : Params) : Obj := ⟨.type "code", none, .fields #[.str (Str.ofString "_law_ways") 868, .str (Str.ofString "_law_ways") 869, .str (Str.ofString "/claim/cut.py") 870, .int (163) 0, .int (2) 0, .int (0) 0, .int (0) 0, .int (3) 0, .ref 265, .bool true, .int (276) 0, .ref 266, .none, .ref 267, .ref 268, .ref 269, .int (878) 0, .int (163) 0, .str (Str.ofString "/claim/cut.py") 879], #[]⟩
def o271 (P : Params) : Obj := ⟨.type "function", none, .func ⟨(Str.ofString "_law_ways"), (Str.ofString "_law_ways"), fParams (st 23), .stmts (fBody (st 23)), fScope (st 23), 3, [], .none, .none, .none, .str (Str.ofString "law_zd0012_01") 839, none, .ref 270, .none, 0⟩, #[]⟩
def o275 (P : Params) : Obj := ⟨.type "code", none, .fields #[.str (Str.ofString "law") 881, .str (Str.ofString "law") 882, .str (Str.ofString "/claim/cut.py") 883, .int (177) 0, .int (1) 0, .int (0) 0, .int (0) 0, .int (3) 0, .ref 272, .bool true, .int (276) 0, .ref 273, .none, .none, .none, .ref 274, .int (884) 0, .int (177) 0, .str (Str.ofString "/claim/cut.py") 885], #[]⟩
def o276 (P : Params) : Obj := ⟨.type "function", none, .func ⟨(Str.ofString "law"), (Str.ofString "law"), fParams (st 24), .stmts (fBody (st 24)), fScope (st 24), 3, [], .none, .none, .none, .str (Str.ofString "law_zd0012_01") 839, none, .ref 275, .none, 0⟩, #[]⟩
def KF (P : Params) : Frag := [(3, o3 P), (40, o40 P), (49, o49 P), (50, o50 P), (52, o52 P), (61, o61 P), (62, o62 P), (70, o70 P), (79, o79 P), (80, o80 P), (86, o86 P), (87, o87 P), (93, o93 P), (94, o94 P), (103, o103 P), (104, o104 P), (108, o108 P), (109, o109 P), (125, o125 P), (131, o131 P), (132, o132 P), (138, o138 P), (139, o139 P), (176, o176 P), (177, o177 P), (234, o234 P), (235, o235 P), (237, o237 P), (238, o238 P), (248, o248 P), (249, o249 P), (253, o253 P), (254, o254 P), (258, o258 P), (259, o259 P), (263, o263 P), (264, o264 P), (270, o270 P), (271, o271 P), (275, o275 P), (276, o276 P)]
def KA : List Addr := [3, 40, 49, 50, 52, 61, 62, 70, 79, 80, 86, 87, 93, 94, 103, 104, 108, 109, 125, 131, 132, 138, 139, 176, 177, 234, 235, 237, 238, 248, 249, 253, 254, 258, 259, 263, 264, 270, 271, 275, 276]

-- the run over the tree of objects, step by step
def ofObjs : List Obj → Nat → BT → Option BT
  | [], _, t => some t
  | o :: r, n, t => match ((t.ins n o).get n).isSome with
    | true => ofObjs r (n + 1) (t.ins n o)
    | false => none
theorem ofObjs_spec {life : Life} : ∀ (l : List Obj) (n : Nat) (t t' : BT), ofObjs l n t = some t' → (absHeap t' (n + l.length) life).objs.toList = (absHeap t n life).objs.toList ++ l
  | [], n, t, t', h => by cases h; simp
  | o :: r, n, t, t', h => by
    unfold ofObjs at h
    cases e : ((t.ins n o).get n).isSome with
    | false => rw [e] at h; cases h
    | true =>
      rw [e] at h
      have := ofObjs_spec (life := life) r (n + 1) (t.ins n o) t' h
      rw [absHeap_ins e] at this
      rw [List.length_cons, show n + (r.length + 1) = n + 1 + r.length by omega, this]
      simp [Heap.push]
def startT (s : Shared) : Option SharedT := (ofObjs s.heap.objs.toList 0 .nil).map fun t => ⟨t, s.heap.objs.size, s.heap.life, s.gens, s.drawn, s.toks, s.os⟩
theorem startT_spec {s : Shared} {S : SharedT} (h : startT s = some S) : S.abs = s := by
  unfold startT at h
  obtain ⟨t, e, rfl⟩ := Option.map_eq_some_iff.mp h
  have := ofObjs_spec (life := s.heap.life) _ _ _ _ e
  obtain ⟨⟨⟨l⟩, life⟩, gens, drawn, toks, os⟩ := s
  show Shared.mk (absHeap t l.length life) gens drawn toks os = _
  have e2 : absHeap t l.length life = ⟨⟨l⟩, life⟩ := by
    have q : (absHeap t l.length life).objs = ⟨l⟩ := by
      apply Array.toList_inj.mp
      simpa [absHeap, BT.list] using this
    show Heap.mk (absHeap t l.length life).objs life = _
    rw [q]
  rw [e2]
def runT (p : Program) (w : World) (n₀ : Nat) (ann : Option Value) : Nat → SharedT × Thread → Option (SharedT × Thread)
  | 0, x => some x
  | n + 1, (s, t) => match through t with
    | true => none
    | false => match stepOk n₀ ann t with
      | false => none
      | true => match stepT (denote treeTable) p w s t with
        | some x => runT p w n₀ ann n x
        | none => none
noncomputable def runQ (p : Program) (w : World) (n₀ : Nat) (ann : Option Value) : Nat → SharedT × Thread → Option (SharedT × Thread)
  | 0, x => some x
  | n + 1, (s, t) => match through t with
    | true => none
    | false => match Fast.tw6613529449190102663 n₀ ann t with
      | false => none
      | true => match Fast.tw10156331382660048174 (Fast.tw11892475500146522536 Fast.tw14364793385576792824) p w s t with
        | some x => runQ p w n₀ ann n x
        | none => none
theorem runQ_eq {p : Program} {w : World} {n₀ : Nat} {ann : Option Value} : ∀ (n : Nat) (x : SharedT × Thread), runQ p w n₀ ann n x = runT p w n₀ ann n x
  | 0, _ => rfl
  | n + 1, (s, t) => by
    unfold runQ runT
    rw [← Fast.te6613529449190102663, ← Fast.te10156331382660048174, ← Fast.te11892475500146522536, ← Fast.te14364793385576792824]
    cases through t with
    | true => rfl
    | false =>
      cases stepOk n₀ ann t with
      | false => rfl
      | true =>
        cases stepT (denote treeTable) p w s t with
        | none => rfl
        | some x => exact runQ_eq n x
theorem runT_add {p : Program} {w : World} {n₀ : Nat} {ann : Option Value} : ∀ (n m : Nat) (x y : SharedT × Thread), runT p w n₀ ann n x = some y → runT p w n₀ ann (n + m) x = runT p w n₀ ann m y
  | 0, m, x, y, h => by cases h; rw [Nat.zero_add]
  | n + 1, m, (s, t), y, h => by
    rw [show n + 1 + m = n + m + 1 by omega]
    conv => lhs; unfold runT
    unfold runT at h
    cases ht : through t with
    | true => rw [ht] at h; cases h
    | false =>
      rw [ht] at h
      cases hk : stepOk n₀ ann t with
      | false => rw [hk] at h; cases h
      | true =>
        rw [hk] at h
        cases hs : stepT (denote treeTable) p w s t with
        | none => rw [hs] at h; cases h
        | some x => rw [hs] at h; exact runT_add n m x y h
theorem runT_top {p : Program} {w : World} {n₀ : Nat} {ann : Option Value} : ∀ (n k : Nat) (s s' : SharedT) (t t' : Thread), runT p w n₀ ann n (s, t) = some (s', t') → through t' = true → topRun treeTable p w n₀ ann (n + k + 1) s.abs t = some s'.abs
  | 0, k, s, s', t, t', h, q => by
    cases h
    unfold topRun
    rw [q]
  | n + 1, k, s, s', t, t', h, q => by
    rw [show n + 1 + k + 1 = (n + k + 1) + 1 by omega]
    unfold runT at h
    unfold topRun
    cases ht : through t with
    | true => rw [ht] at h; cases h
    | false =>
      rw [ht] at h
      cases hk : stepOk n₀ ann t with
      | false => rw [hk] at h; cases h
      | true =>
        rw [hk] at h
        cases hs : stepT (denote treeTable) p w s t with
        | none => rw [hs] at h; cases h
        | some x =>
          obtain ⟨s₂, t₂⟩ := x
          rw [hs] at h
          rw [stepT_spec hs]
          exact runT_top n k s₂ s' t₂ t' h q
end Zd

namespace Zd
open PySem PySem.W PyProof.Rows PySem.Calls

abbrev Ext (h h' : Heap) : Prop := ∀ b o, h.get? b = some o → h'.get? b = some o
theorem Ext.rfl' (h : Heap) : Ext h h := fun _ _ e => e
theorem Ext.trans' {a b c : Heap} (x : Ext a b) (y : Ext b c) : Ext a c := fun d o e => y d o (x d o e)
theorem Ext.push' (h : Heap) (o : Obj) : Ext h (h.push o) := fun _ _ e => Heap.get?_push_of_some _ e

/-- an address that is the frame's own -/
def Priv (env : Env) (b : Addr) : Prop := b = env.locals ∨ ∃ n, (n, b) ∈ env.cells
/-- what lies outside the frame stays -/
def Stay (env : Env) (h h' : Heap) : Prop := ∀ b o, ¬ Priv env b → h.get? b = some o → h'.get? b = some o
theorem Stay.ext {env : Env} {h h' : Heap} (k : Ext h h') : Stay env h h' := fun b o _ e => k b o e
theorem Stay.trans {env : Env} {a b c : Heap} (x : Stay env a b) (y : Stay env b c) : Stay env a c := fun d o p e => y d o p (x d o p e)

/-- the state but for heap and toks -/
structure Sm (s s' : Shared) : Prop where
  gens : s'.gens = s.gens
  os : s'.os = s.os
theorem Sm.rfl' (s : Shared) : Sm s s := ⟨rfl, rfl⟩
theorem Sm.trans' {a b c : Shared} (x : Sm a b) (y : Sm b c) : Sm a c := ⟨y.gens.trans x.gens, y.os.trans x.os⟩

/-- a running frame: one map for the locals and the cells -/
structure FF (env : Env) (h₀ : Heap) (v : Str → Option Value) (h : Heap) : Prop where
  fn : env.scope.kind = .function
  ns : ∃ m, h.Ns env.locals m ∧ ∀ n, env.kindOf n = some .local → m n = v n
  cell : ∀ n c, env.cells.lookup n = some c → env.kindOf n = some .cell → h.IsCell c (v n)
  keep : Ext h₀ h
  new : ∀ b, Priv env b → h₀.get? b = none
  old : ∀ b, Priv env b → ∃ o, h.get? b = some o
  apart : env.cells.Pairwise fun x y => x.2 ≠ y.2
  offL : ∀ n c, (n, c) ∈ env.cells → c ≠ env.locals

section
variable {env : Env} {h₀ h h' : Heap} {v : Str → Option Value}
theorem FF.notPriv (F : FF env h₀ v h) {b : Addr} {o : Obj} (e : h₀.get? b = some o) : ¬ Priv env b := fun p => by rw [F.new b p] at e; cases e
theorem FF.size_notPriv (F : FF env h₀ v h) {b : Addr} (e : h.objs.size ≤ b) : ¬ Priv env b := fun p => by
  obtain ⟨o, ho⟩ := F.old b p
  exact absurd e (Nat.not_le_of_lt (Heap.lt_size ho))
/-- the heap grows, nothing is touched -/
theorem FF.ext (F : FF env h₀ v h) (k : Ext h h') : FF env h₀ v h' where
  fn := F.fn
  ns := let ⟨m, a, b⟩ := F.ns; ⟨m, a.keeps k, b⟩
  cell := fun n c a q => (F.cell n c a q).keeps k
  keep := F.keep.trans' k
  new := F.new
  old := fun b p => let ⟨o, ho⟩ := F.old b p; ⟨o, k b o ho⟩
  apart := F.apart
  offL := F.offL
/-- an object that is not the frame's and did not stand before it is changed -/
theorem FF.mut (F : FF env h₀ v h) {d : Addr} (hp : ¬ Priv env d) (h0 : h₀.get? d = none) (k : ∀ b o, b ≠ d → h.get? b = some o → h'.get? b = some o) : FF env h₀ v h' where
  fn := F.fn
  ns := let ⟨m, a, b⟩ := F.ns; ⟨m, a.at' fun o e => k _ o (fun q => hp (q ▸ .inl rfl)) e, b⟩
  cell := fun n c a q => let ⟨o, ho, hd⟩ := F.cell n c a q; ⟨o, k c o (fun q => hp (q ▸ .inr ⟨n, mem_of_lookup a⟩)) ho, hd⟩
  keep := fun b o e => k b o (fun q => by rw [q, h0] at e; cases e) (F.keep b o e)
  new := F.new
  old := fun b p => let ⟨o, ho⟩ := F.old b p; ⟨o, k b o (fun q => hp (q ▸ p)) ho⟩
  apart := F.apart
  offL := F.offL
/-- the base is moved up: what stands in b₁ stands now, and b₁ holds nothing of the frame's -/
theorem FF.rebase (F : FF env h₀ v h) {h₁ : Heap} (k : Ext h₁ h) (n : ∀ b, Priv env b → h₁.get? b = none) : FF env h₁ v h where
  fn := F.fn
  ns := F.ns
  cell := F.cell
  keep := k
  new := n
  old := F.old
  apart := F.apart
  offL := F.offL
end

def Held (env : Env) (n : Str) : Bool := decide (env.kindOf n = some .local) || (decide (env.kindOf n = some .cell) && (env.cells.lookup n).isSome)

section
variable {M : Model} {A : Around} {E : Value → Shared → Prop} {s : Shared} {env : Env} {h₀ : Heap} {v : Str → Option Value}

theorem ldF {n : Str} {x : Value} {Q : Value → Shared → Prop} (F : FF env h₀ v s.heap) (hv : v n = some x) (hn : Held env n = true) (h : Q x s) : wpAny M A (loadName env n) Q E s := by
  unfold Held at hn
  rcases Bool.or_eq_true_iff.mp hn with q | q
  · have q := of_decide_eq_true q
    obtain ⟨m, hm, he⟩ := F.ns
    exact wpAny_loadName_local F.fn q hm ((he n q).trans hv) h
  · obtain ⟨q1, q2⟩ := Bool.and_eq_true_iff.mp q
    obtain ⟨c, hc⟩ := Option.isSome_iff_exists.mp q2
    exact wpAny_loadName_cell F.fn (of_decide_eq_true q1) hc (hv ▸ F.cell n c hc (of_decide_eq_true q1)) h
theorem nmF {n : Str} {x : Value} {pos : Pos} {Q : Value → Shared → Prop} (F : FF env h₀ v s.heap) (hv : v n = some x) (h : Q x s) (hn : Held env n = true := by rfl) (hd : (n == ("__debug__" : Str)) = false := by decide) :
    wpAny M A (eval (.Name n pos) env) Q E s := wpAny_Name (ldF F hv hn h) hd

theorem stF {n : Str} {x : Value} {Q : Unit → Shared → Prop} (F : FF env h₀ v s.heap) (hn : Held env n = true)
    (h : ∀ s', Sm s s' → FF env h₀ (fun y => if y = n then some x else v y) s'.heap → Stay env s.heap s'.heap → Q () s') : wpAny M A (storeName env n x) Q E s := by
  unfold Held at hn
  rcases Bool.or_eq_true_iff.mp hn with q | q
  · have q := of_decide_eq_true q
    obtain ⟨m, hm, he⟩ := F.ns
    refine wpAny_storeName_local q hm (fun h' hn' hs => h _ ⟨rfl, rfl⟩ ⟨F.fn, ⟨_, hn', fun y hy => ?_⟩, fun y c hc hk => ?_, fun b o e => ?_, F.new, fun b p => ?_, F.apart, F.offL⟩ fun b o p e => ?_) (by rw [F.fn]; rfl)
    · by_cases hyn : y = n
      · simp [hyn]
      · simp [hyn, he y hy]
    · have hcl : c ≠ env.locals := F.offL y c (mem_of_lookup hc)
      have hyn : y ≠ n := fun e => by subst e; rw [q] at hk; cases hk
      rw [if_neg hyn]; exact (F.cell y c hc hk).sameBut hs hcl
    · exact hs.extBut b o (fun e' => by subst e'; rw [F.new _ (.inl rfl)] at e; cases e) (F.keep b o e)
    · obtain ⟨o, ho⟩ := F.old b p
      by_cases hb : b = env.locals
      · subst hb; obtain ⟨o', _, _, ho', _⟩ := hn'; exact ⟨o', ho'⟩
      · exact ⟨o, hs.extBut b o hb ho⟩
    · exact hs.extBut b o (fun e' => p (.inl e')) e
  · obtain ⟨q1, q2⟩ := Bool.and_eq_true_iff.mp q
    have q1 := of_decide_eq_true q1
    obtain ⟨c, hc⟩ := Option.isSome_iff_exists.mp q2
    refine wpAny_storeName_cell F.fn q1 hc (F.cell n c hc q1) fun h' hc' hs => h _ ⟨rfl, rfl⟩ ⟨F.fn, ?_, fun y c' hc'' hk => ?_, fun b o e => ?_, F.new, fun b p => ?_, F.apart, F.offL⟩ fun b o p e => ?_
    · obtain ⟨m, hm, he⟩ := F.ns
      refine ⟨m, hm.sameBut hs (Ne.symm (F.offL n c (mem_of_lookup hc))), fun y hy => ?_⟩
      have hyn : y ≠ n := fun e => by subst e; rw [q1] at hy; cases hy
      rw [if_neg hyn]; exact he y hy
    · by_cases hyn : y = n
      · subst hyn
        rw [hc] at hc''; cases hc''
        simpa using hc'
      · rw [if_neg hyn]
        exact (F.cell y c' hc'' hk).sameBut hs fun e => hyn (name_of_addr F.apart (mem_of_lookup hc'') (e ▸ mem_of_lookup hc))
    · exact hs.extBut b o (fun e' => by subst e'; rw [F.new _ (.inr ⟨n, mem_of_lookup hc⟩)] at e; cases e) (F.keep b o e)
    · obtain ⟨o, ho⟩ := F.old b p
      by_cases hb : b = c
      · subst hb; obtain ⟨o', ho', _⟩ := hc'; exact ⟨o', ho'⟩
      · exact ⟨o, hs.extBut b o hb ho⟩
    · exact hs.extBut b o (fun e' => p (.inr ⟨n, e' ▸ mem_of_lookup hc⟩)) e
end

/-- what a call of the text's own needs of the heap: fixed facts of the top -/
structure Base (w : World) (h : Heap) : Prop where
  k : (KF w.params).In h
  b : ∃ mb, h.Ns builtinsNs mb ∧ ∀ x : Str, x ≠ "__name__" → mb x = bootBuiltins x
  lim : h.NoLimit
theorem Base.ext {w : World} {h h' : Heap} (B : Base w h) (k : Ext h h') : Base w h' :=
  ⟨B.k.keeps k, let ⟨mb, a, c⟩ := B.b; ⟨mb, a.keeps k, c⟩, B.lim.keeps k⟩

theorem lookup_snoc {α : Type} (l : List (Str × α)) (k n : Str) (x : α) : (l ++ [(k, x)]).lookup n = (l.lookup n).or (if n = k then some x else none) := by
  induction l with
  | nil =>
    rw [List.nil_append, List.lookup_cons]
    by_cases h : n = k
    · subst h; simp
    · rw [beq_eq_false_iff_ne.mpr h]; simp [h]
  | cons p r ih =>
    obtain ⟨a, b⟩ := p
    rw [List.cons_append, List.lookup_cons, List.lookup_cons]
    cases n == a with
    | true => simp
    | false => exact ih
theorem bindL_at {kindOf : Str → Option NameKind} {n : Str} (hk : kindOf n = some .local) : ∀ (binds : List (Str × Value)) (m : Str → Option Value), bindL kindOf binds m n = (binds.reverse.lookup n).or (m n)
  | [], m => by simp [bindL]
  | (k, x) :: r, m => by
    unfold bindL
    rw [bindL_at hk r, List.reverse_cons, lookup_snoc, Option.or_assoc]
    by_cases h : n = k
    · subst h; simp [hk]
    · by_cases hq : kindOf k = some .local <;> simp [h, hq]
theorem bindC_at {kindOf : Str → Option NameKind} {n : Str} (hk : kindOf n = some .cell) : ∀ (binds : List (Str × Value)) (m : Str → Option Value), bindC kindOf binds m n = (binds.reverse.lookup n).or (m n)
  | [], m => by simp [bindC]
  | (k, x) :: r, m => by
    unfold bindC
    rw [bindC_at hk r, List.reverse_cons, lookup_snoc, Option.or_assoc]
    by_cases h : n = k
    · subst h; simp [hk]
    · by_cases hq : kindOf k = some .local <;> simp [h, hq]

/-- entering a def of the text: no cells or cells -/
theorem enterC {w : World} {A : Around} {s : Shared} {R : Result → Shared → Prop} {f : Addr} {o : Obj} {fd : FuncData} {body : List Stmt} {pos : List Value} {kw : List (Str × Value)} {binds : List (Str × Value)}
    (B : Base w s.heap) (hroom : A.depth < recursionLimit) (ho : s.heap.get? f = some o) (hdata : o.data = .func fd) (hcd : s.heap.CodeRec fd.code fd.qualname)
    (hbody : fd.body = .stmts body) (hbind : BindsTo s fd ⟨pos, kw⟩ binds) (hclo : fd.closure = [])
    (hkind : ∀ n, (binds.all fun x => decide (fd.scope.names.lookup x.1 = some .local) || (decide (fd.scope.names.lookup x.1 = some .cell) && ((cellsFrom n fd.scope.names []).lookup x.1).isSome)) = true)
    (hnd : ((cellsFrom 0 fd.scope.names []).map (·.1)).Nodup)
    (h : ∀ s₁, Sm s s₁ → FF (callEnvC fd s.heap.objs.size f) s.heap (fun n => binds.reverse.lookup n) s₁.heap →
      wpAny (model P0 w) (A.deeper (callEnvC fd s.heap.objs.size f)) (execs body (callEnvC fd s.heap.objs.size f)) (fun fl s' => R (.ok (.ret (match fl with | .ret v => v | _ => .none))) s') (fun _ _ => False) s₁)
    (hco : fd.scope.isCoroutine = false := by rfl) (hgen : fd.scope.isGenerator = false := by rfl) (hk : fd.scope.kind = .function := by rfl) :
    codeAny (model P0 w) A (.call (.ref f) ⟨pos, kw⟩) R s := by
  refine codeAny_call_function hroom ho hdata hco hgen hbody hcd (hbind _ _ _ _ ?_)
  rw [hclo]
  refine wpAny_newFunctionEnv_cells hk (fun x hx => ?_) fun env he s' x => ?_
  · have := List.all_eq_true.mp (hkind (s.heap.objs.size + 1)) x hx
    simpa only [Bool.or_eq_true, Bool.and_eq_true, decide_eq_true_eq] using this
  · subst he
    refine ⟨B.lim.keeps x.toInCall.keep, codeAny_func ?_⟩
    obtain ⟨h₁, tk, rfl, hk₁⟩ := x.done
    refine wpAny_mono (h _ ⟨rfl, rfl⟩ ?_) (fun _ _ q => q) fun _ _ q => q.elim
    have hnone : ∀ b, s.heap.objs.size ≤ b → s.heap.get? b = none := fun b hb => by
      cases e : s.heap.get? b with
      | none => rfl
      | some o => exact absurd hb (Nat.not_le_of_lt (Heap.lt_size e))
    refine ⟨hk, ⟨_, x.toInCall.ns, fun n hn => ?_⟩, fun n c hc hn => ?_, x.toInCall.keep, fun b p => ?_, fun b p => ?_, x.apart, fun n c hm => Nat.ne_of_gt (x.above n c hm)⟩
    · have e := bindL_at (kindOf := (newEnv fd.scope s.heap.objs.size fd.globals (cellsFrom (s.heap.objs.size + 1) fd.scope.names []) (fd.qualname ++ Str.ofString ".<locals>.") (some f) fd.code none fd.builtins).kindOf) hn binds (fun _ => none)
      rw [e]; simp
    · have e : bindC (callEnvC fd s.heap.objs.size f).kindOf binds (fun _ => none) n = binds.reverse.lookup n := by rw [bindC_at hn]; simp
      have := x.cell n c hc
      exact e ▸ this
    · rcases p with rfl | ⟨n, hn⟩
      · exact hnone _ (Nat.le_refl _)
      · exact hnone _ (Nat.le_of_lt (x.above n b hn))
    · rcases p with rfl | ⟨n, hn⟩
      · obtain ⟨o', _, _, ho', _⟩ := x.toInCall.ns; exact ⟨o', ho'⟩
      · obtain ⟨o', ho', _⟩ := x.cell n b (lookup_of_mem_nodup (cellsFrom_names fd.scope.names 0 (s.heap.objs.size + 1) [] [] rfl ▸ hnd) hn)
        exact ⟨o', ho'⟩
theorem enterF {w : World} {A : Around} {E : Value → Shared → Prop} {s : Shared} {Q : Value → Shared → Prop} {f : Addr} {o : Obj} {fd : FuncData} {body : List Stmt} {pos : List Value} {kw : List (Str × Value)} {binds : List (Str × Value)}
    (B : Base w s.heap) (hroom : A.depth < recursionLimit) (ho : s.heap.get? f = some o) (hdata : o.data = .func fd) (hcd : s.heap.CodeRec fd.code fd.qualname)
    (hbody : fd.body = .stmts body) (hbind : BindsTo s fd ⟨pos, kw⟩ binds) (hclo : fd.closure = [])
    (hkind : ∀ n, (binds.all fun x => decide (fd.scope.names.lookup x.1 = some .local) || (decide (fd.scope.names.lookup x.1 = some .cell) && ((cellsFrom n fd.scope.names []).lookup x.1).isSome)) = true)
    (hnd : ((cellsFrom 0 fd.scope.names []).map (·.1)).Nodup)
    (h : ∀ s₁, Sm s s₁ → FF (callEnvC fd s.heap.objs.size f) s.heap (fun n => binds.reverse.lookup n) s₁.heap →
      wpAny (model P0 w) (A.deeper (callEnvC fd s.heap.objs.size f)) (execs body (callEnvC fd s.heap.objs.size f)) (fun fl s' => Q (match fl with | .ret v => v | _ => .none) s') (fun _ _ => False) s₁)
    (hco : fd.scope.isCoroutine = false := by rfl) (hgen : fd.scope.isGenerator = false := by rfl) (hk : fd.scope.kind = .function := by rfl) :
    wpAny (model P0 w) A (call (.ref f) pos kw) Q E s :=
  wpAny_call (enterC B hroom ho hdata hcd hbody hbind hclo hkind hnd h hco hgen hk)
end Zd

namespace Zd
open PySem PySem.W PyProof.Rows PySem.Calls

abbrev Sure {α : Type} (w : World) (A : Around) (t : Sem α) (Q : α → Shared → Prop) (s : Shared) : Prop := ∀ E, wpAny (model P0 w) A t Q E s

section
variable {w : World} {A : Around}
/-- a for over a walked iterator, one name, by an invariant over the state -/
theorem for_rule {R : Result → Shared → Prop} {s : Shared} {env : Env} {x : Str} {px : Pos} {body : List Stmt} {I : Addr} {fp wr : List Addr} {n : Nat} {P : Nat → Value → Prop} {St : Nat → Heap → Prop}
    (W : Walks P0 w A I fp wr n P St) (Inv : Nat → Shared → Prop) (hSt : ∀ i s, Inv i s → St i s.heap) (h0 : Inv 0 s)
    (turn : ∀ i v s' h₁ tk, i < n → Inv i s' → P i v → St (i + 1) h₁ → (∀ b o, b ∉ wr → s'.heap.get? b = some o → h₁.get? b = some o) →
      Sure w A (storeName env x v) (fun _ s₂ => Sure w A (execs body env) (fun f s₃ => match f with
        | .next | .cont => Inv (i + 1) s₃
        | .brk => R (.ok .next) s₃
        | .ret v => R (.ok (.ret v)) s₃) s₂) { s' with heap := h₁, toks := tk })
    (done : ∀ s' h₁ tk, Inv n s' → (∀ b o, b ∉ wr → s'.heap.get? b = some o → h₁.get? b = some o) → R (.ok .next) { s' with heap := h₁, toks := tk }) :
    codeAny (model P0 w) A (.forLoop (.Name x px) (.ref I) body [] env) R s := by
  refine codeAny_forLoop_any (fun k s' => ∃ i, i ≤ n ∧ k = n + 1 - i ∧ Inv i s') ?_ (n + 1) ⟨0, Nat.zero_le _, rfl, h0⟩
  rintro k s' ⟨i, hi, rfl, hI⟩
  by_cases hlt : i < n
  · refine W.item i _ _ _ hlt (hSt i s' hI) fun v h₁ tk hP hst hk => ?_
    show wpAny _ _ (pure ()) _ _ _
    refine wpAny_pure (wpAny_assign_Name (wpAny_mono (turn i v s' h₁ tk hlt hI hP hst hk _) (fun _ s₂ h₂ => wpAny_mono (h₂ _) (fun f s₃ h₃ => ?_) fun _ _ e => e) fun _ _ e => e))
    cases f with
    | next => exact ⟨n + 1 - (i + 1), by omega, i + 1, hlt, rfl, h₃⟩
    | cont => exact ⟨n + 1 - (i + 1), by omega, i + 1, hlt, rfl, h₃⟩
    | brk => exact h₃
    | ret v => exact h₃
  · have hin : i = n := by omega
    subst hin
    exact W.done _ _ _ (hSt _ s' hI) fun h₁ tk hk => wpAny_execs_nil (done s' h₁ tk hI hk)
end

/-- what a loop walks over: n items, the i-th by P; Z are the loop's own places -/
def Src (w : World) (A : Around) (env : Env) (X : Addr → Prop) (s s₂ : Shared) (it : Value) (n : Nat) (P : Nat → Value → Prop) : Prop :=
  ∃ I fp wr St, it = .ref I ∧ Walks P0 w A I fp wr n P St ∧ St 0 s₂.heap ∧ (∀ b ∈ wr, s.heap.get? b = none) ∧ (∀ i h, St i h → ∀ b ∈ wr, ∃ o, h.get? b = some o) ∧ ∀ b ∈ fp, b ∈ wr ∨ ((∃ o, s₂.heap.get? b = some o) ∧ ¬ Priv env b ∧ ¬ X b)

/-- what the frame and X do not own stays -/
abbrev Pres (env : Env) (X : Addr → Prop) (h h' : Heap) : Prop := ∀ b o, ¬ Priv env b → ¬ X b → h.get? b = some o → h'.get? b = some o

theorem For_rule {w : World} {A : Around} {E : Value → Shared → Prop} {Q : Flow → Shared → Prop} {s : Shared} {env : Env} {h₀ : Heap} {v₀ : Str → Option Value} {x : Str} {px pos : Pos} {iter : Expr} {body : List Stmt} {n : Nat} {P : Nat → Value → Prop}
    (X : Addr → Prop) (J : (Addr → Prop) → Nat → (Str → Option Value) → Heap → Prop)
    (F : FF env h₀ v₀ s.heap) (hX : ∀ b, X b → ∃ o, s.heap.get? b = some o)
    (hiter : wpAny (model P0 w) A (eval iter env) (fun xv s₁ => wpAny (model P0 w) A (pyIter xv) (fun it s₂ => Sm s s₂ ∧ Ext s.heap s₂.heap ∧ Src w A env X s s₂ it n P) E s₁) E s)
    (h0 : ∀ Z h, (∀ b, Z b → s.heap.get? b = none) → Ext s.heap h → J Z 0 v₀ h) (hx : Held env x = true)
    (hJ : ∀ Z i v h h₁, i ≤ n → J Z i v h → (∀ b o, ¬ Priv env b → ¬ Z b → h.get? b = some o → h₁.get? b = some o) → J Z i v h₁)
    (turn : ∀ Z i val s' v, i < n → P i val → Sm s s' → (∀ b, Z b → ∃ o, s'.heap.get? b = some o) → (∀ b, Z b → ¬ X b ∧ ¬ Priv env b) → FF env h₀ (fun y => if y = x then some val else v y) s'.heap → J Z i v s'.heap →
      Sure w A (execs body env) (fun f s₃ => match f with
        | .next | .cont => Sm s s₃ ∧ Pres env X s'.heap s₃.heap ∧ (∃ v', FF env h₀ v' s₃.heap ∧ J Z (i + 1) v' s₃.heap)
        | .brk => Q .next s₃
        | .ret r => Q (.ret r) s₃) s')
    (done : ∀ Z s' v, Sm s s' → FF env h₀ v s'.heap → J Z n v s'.heap → Q .next s')
    (hs : ∀ x, foldedSetIterable iter env x = pure x := by intro _; rfl) :
    wpAny (model P0 w) A (exec (.For (.Name x px) iter body [] pos) env) Q E s := by
  refine wpAny_For (wpAny_mono hiter (fun xv s₁ h₁ => wpAny_mono h₁ (fun it s₂ h₂ => ?_) fun _ _ e => e) fun _ _ e => e) hs
  obtain ⟨M₂, k₂, I, fp, wr, St, rfl, W, hst, hwr, hSw, hfp⟩ := h₂
  have F₂ := F.ext k₂
  have hwrP : ∀ b ∈ wr, ¬ Priv env b := fun b hb p => by
    obtain ⟨o, ho⟩ := F.old b p
    rw [hwr b hb] at ho; cases ho
  have hfpP : ∀ b ∈ fp, ¬ Priv env b := fun b hb => (hfp b hb).elim (hwrP b) fun q => q.2.1
  have hwr0 : ∀ b ∈ wr, h₀.get? b = none := fun b hb => by
    cases e : h₀.get? b with
    | none => rfl
    | some o => have := F.keep b o e; rw [hwr b hb] at this; cases this
  have hwrX : ∀ b ∈ wr, ¬ X b := fun b hb p => by
    obtain ⟨o, ho⟩ := hX b p
    rw [hwr b hb] at ho; cases ho
  have mutL : ∀ {h h₁ : Heap} {v : Str → Option Value}, FF env h₀ v h → (∀ b o, b ∉ wr → h.get? b = some o → h₁.get? b = some o) → FF env h₀ v h₁ := fun {h h₁ v} F k =>
    { fn := F.fn
      ns := let ⟨m, a, b⟩ := F.ns; ⟨m, a.at' fun o e => k _ o (fun q => hwrP _ q (.inl rfl)) e, b⟩
      cell := fun n c a q => let ⟨o, ho, hd⟩ := F.cell n c a q; ⟨o, k c o (fun q => hwrP _ q (.inr ⟨n, mem_of_lookup a⟩)) ho, hd⟩
      keep := fun b o e => k b o (fun q => by rw [hwr0 b q] at e; cases e) (F.keep b o e)
      new := F.new
      old := fun b p => let ⟨o, ho⟩ := F.old b p; ⟨o, k b o (fun q => hwrP _ q p) ho⟩
      apart := F.apart
      offL := F.offL }
  -- the loop's places stand all the while
  refine for_rule W (fun i s' => i ≤ n ∧ Sm s s' ∧ St i s'.heap ∧ ∃ v, FF env h₀ v s'.heap ∧ J (· ∈ wr) i v s'.heap) (fun i s' h => h.2.2.1)
    ⟨Nat.zero_le _, M₂, hst, v₀, F₂, h0 _ _ hwr k₂⟩ ?_ ?_
  · rintro i val s' h₁ tk hi ⟨_, M, hsti, v, F', hj⟩ hP hst₁ hk
    intro E₁
    have F₁ := mutL F' hk
    have hold₁ : ∀ b ∈ wr, ∃ o, h₁.get? b = some o := hSw _ _ hst₁
    refine stF (s := { s' with heap := h₁, toks := tk }) F₁ hx fun s₂ M₂ F₂ S₂ => ?_
    have M' : Sm s s₂ := ⟨M₂.gens.trans M.gens, M₂.os.trans M.os⟩
    have hj₂ := hJ (· ∈ wr) i v s'.heap s₂.heap (Nat.le_of_lt hi) hj fun b o hp hb e => S₂ b o hp (hk b o hb e)
    intro E'
    refine wpAny_mono (turn (· ∈ wr) i val s₂ v hi hP M' (fun b hb => let ⟨o, ho⟩ := hold₁ b hb; ⟨o, S₂ b o (hwrP b hb) ho⟩) (fun b hb => ⟨hwrX b hb, hwrP b hb⟩) F₂ hj₂ E') (fun f s₃ h₃ => ?_) fun _ _ e => e
    have fin : (Sm s s₃ ∧ Pres env X s₂.heap s₃.heap ∧ (∃ v', FF env h₀ v' s₃.heap ∧ J (· ∈ wr) (i + 1) v' s₃.heap)) →
        (i + 1 ≤ n ∧ Sm s s₃ ∧ St (i + 1) s₃.heap ∧ ∃ v, FF env h₀ v s₃.heap ∧ J (· ∈ wr) (i + 1) v s₃.heap) := fun ⟨m, c, v', a, b⟩ =>
      ⟨hi, m, W.frame _ _ _ hst₁ fun b hb o e => c b o (hfpP b hb) ((hfp b hb).elim (hwrX b) fun q => q.2.2) (S₂ b o (hfpP b hb) e), v', a, b⟩
    cases f with
    | next => exact fin h₃
    | cont => exact fin h₃
    | brk => exact h₃
    | ret r => exact h₃
  · rintro s' h₁ tk ⟨_, M, _, v, F', hj⟩ hk
    exact done (· ∈ wr) _ v ⟨M.gens, M.os⟩ (mutL F' hk) (hJ (· ∈ wr) n v s'.heap h₁ (Nat.le_refl _) hj fun b o _ hb e => hk b o hb e)

/-- a dict of words and ints, in order -/
inductive IntsOf : List (Str × Value) → List (Str × Int) → Prop
  | nil : IntsOf [] []
  | cons {k : Str} {n : Int} {t : Tok} {l : List (Str × Value)} {r : List (Str × Int)} : IntsOf l r → IntsOf ((k, .int n t) :: l) ((k, n) :: r)
def DictSI (w : World) (h : Heap) (d : Addr) (xs : List (Str × Int)) : Prop := ∃ kvs, h.DictOf (strKind P0 w) d kvs ∧ IntsOf kvs xs
theorem DictSI.at {w : World} {h h' : Heap} {d : Addr} {xs : List (Str × Int)} (D : DictSI w h d xs) (k : ∀ o, h.get? d = some o → h'.get? d = some o) : DictSI w h' d xs :=
  let ⟨kvs, a, b⟩ := D; ⟨kvs, a.at k, b⟩
theorem DictSI.ext {w : World} {h h' : Heap} {d : Addr} {xs : List (Str × Int)} (D : DictSI w h d xs) (k : Ext h h') : DictSI w h' d xs := D.at fun o e => k d o e
theorem DictSI.lt {w : World} {h : Heap} {d : Addr} {xs : List (Str × Int)} (D : DictSI w h d xs) : ∃ o, h.get? d = some o := by
  obtain ⟨kvs, ⟨o, es, ep, ho, _⟩, _⟩ := D; exact ⟨o, ho⟩
theorem IntsOf.get {kvs : List (Str × Value)} {xs : List (Str × Int)} (h : IntsOf kvs xs) : ∀ {i : Nat} {k : Str} {v : Value}, kvs[i]? = some (k, v) → ∃ n t, xs[i]? = some (k, n) ∧ v = .int n t := by
  induction h with
  | nil => intro i k v e; simp at e
  | cons _ ih =>
    intro i k v e
    cases i with
    | zero =>
      simp only [List.getElem?_cons_zero, Option.some.injEq, Prod.mk.injEq] at e
      obtain ⟨rfl, rfl⟩ := e
      exact ⟨_, _, by simp, rfl⟩
    | succ i => simpa using ih (i := i) (by simpa using e)
theorem IntsOf.length {kvs : List (Str × Value)} {xs : List (Str × Int)} (h : IntsOf kvs xs) : kvs.length = xs.length := by
  induction h with
  | nil => rfl
  | cons _ ih => simp [ih]

def fd94 : FuncData := ⟨(Str.ofString "count_calls"), (Str.ofString "count_calls"), fParams (st 11), .stmts (fBody (st 11)), fScope (st 11), 3, [], .none, .none, .none, .str (Str.ofString "cpy313.pstats") 554, none, .ref 93, .none, 0⟩
theorem cd94 {w : World} {h : Heap} (B : Base w h) : ∃ o, h.get? 94 = some o ∧ o.data = .func fd94 ∧ h.CodeRec (.ref 93) (Str.ofString "count_calls") :=
  ⟨_, B.k 94 _ rfl, rfl, 93, _, _, _, rfl, B.k 93 _ rfl, rfl, rfl⟩

theorem Call_values {w : World} {A : Around} {E : Value → Shared → Prop} {s : Shared} {env : Env} {o : Expr} {apos pos : Pos} {d : Addr} {kvs : List (Str × Value)} {Q : Value → Shared → Prop} (hdS : (d == sysModules) = false) (hm : s.heap.DictOf (strKind P0 w) d kvs)
    (ho : ∀ Q', Q' (.ref d) s → wpAny (model P0 w) A (eval o env) Q' E s)
    (hQ : Q (.ref s.heap.objs.size) { s with heap := s.heap.push { cls := .type "dict_values", data := .fields #[.ref d] } })
    (hbase : attributeBase o (Str.ofString "values") env (eval o env) = eval o env := by rfl) (hline : (apos.endLine == pos.line) = true := by rfl) :
    wpAny (model P0 w) A (eval (.Call (.Attribute o (Str.ofString "values") apos) [] [] pos) env) Q E s := by
  refine wpAny_Call_method (T := "dict") (id := "dict.values") hbase rfl hline F.plainAttrs_dict F.slot_dict_values F.type_dict_values (ho _ ⟨hm.typeIs, hm.mapOf.noDict, ?_⟩)
  show wpAny _ _ (callWith pos (.builtin "dict.values") [.ref d] [] []) Q E s
  exact method_meetsIn F.slot_dict_values F.entry_dict_values rfl (PySem.evalArgs_none ⟨rfl, hm.typeIs, F.args_dict_values_1 _, _, meets_dict_values (strKind P0 w) d hdS, ⟨kvs, hm⟩, hQ⟩)


/-- a dict's values as a loop's source -/
theorem src_values {w : World} {A : Around} {E : Value → Shared → Prop} {s : Shared} {env : Env} {X : Addr → Prop} {o : Expr} {apos pos : Pos} {d : Addr} {kvs : List (Str × Value)} (hh : A.handled = none) (hdS : (d == sysModules) = false) (hm : s.heap.DictOf (strKind P0 w) d kvs)
    (hdp : ¬ Priv env d) (hdX : ¬ X d) (ho : ∀ Q', Q' (.ref d) s → wpAny (model P0 w) A (eval o env) Q' E s)
    (hbase : attributeBase o (Str.ofString "values") env (eval o env) = eval o env := by rfl) (hline : (apos.endLine == pos.line) = true := by rfl) :
    wpAny (model P0 w) A (eval (.Call (.Attribute o (Str.ofString "values") apos) [] [] pos) env) (fun xv s₁ => wpAny (model P0 w) A (pyIter xv) (fun it s₂ => Sm s s₂ ∧ Ext s.heap s₂.heap ∧
      Src w A env X s s₂ it kvs.length (fun i v => ∃ k, kvs[i]? = some (k, v))) E s₁) E s := by
  obtain ⟨ep, hm'⟩ := hm.dictAt
  refine Call_values hdS hm ho (wpAny_pyIter_values (knd := strKind P0 w) (d := d) (kvs := kvs) (ep := ep) ⟨_, Heap.get?_push_size _ rfl, rfl, rfl⟩ (hm'.push _) ?_) hbase hline
  have hlt := hm'.lt_size
  have k : Ext s.heap ((s.heap.push { cls := .type "dict_values", data := .fields #[.ref d] }).push { cls := .type "dict_valueiterator", data := .fields #[.ref d, .int 0 0, .int kvs.length 0, .int ep 0] }) := (Ext.push' _ _).trans' (Ext.push' _ _)
  have hsz : (s.heap.push { cls := .type "dict_values", data := .fields #[.ref d] }).objs.size = s.heap.objs.size + 1 := Heap.size_push ..
  have hne : d ≠ (s.heap.push { cls := .type "dict_values", data := .fields #[.ref d] }).objs.size := by rw [hsz]; exact Nat.ne_of_lt (Nat.lt_succ_of_lt hlt)
  refine ⟨⟨rfl, rfl⟩, k, _, _, _, _, rfl, Walks.dictValues (knd := strKind P0 w) hh _ d hne kvs ep, ⟨⟨_, Heap.get?_push_size _ rfl, rfl, rfl⟩, (hm'.push _).push _⟩, fun b hb => ?_, fun i h st b hb => ?_, fun b hb => ?_⟩
  · rw [List.mem_singleton.mp hb]
    cases e : s.heap.get? (s.heap.push { cls := .type "dict_values", data := .fields #[.ref d] }).objs.size with
    | none => rfl
    | some o' => exact absurd (Heap.lt_size e) (by rw [hsz]; exact Nat.not_lt_of_le (Nat.le_succ _))
  · rw [List.mem_singleton.mp hb]; obtain ⟨oi, ho, _⟩ := st.1; exact ⟨oi, ho⟩
  · rcases List.mem_cons.mp hb with rfl | hb
    · exact .inl (.head _)
    · rw [List.mem_singleton.mp hb]
      obtain ⟨od, _, hod, _⟩ := hm'
      exact .inr ⟨⟨od, k _ _ hod⟩, hdp, hdX⟩

theorem sum_take_succ {xs : List (Str × Int)} {i : Nat} {k : Str} {n : Int} (h : xs[i]? = some (k, n)) : ((xs.take (i + 1)).map (·.2)).sum = ((xs.take i).map (·.2)).sum + n := by
  rw [List.take_add_one, h]; simp

theorem count_calls_spec {w : World} {A : Around} {E : Value → Shared → Prop} {s : Shared} {Q : Value → Shared → Prop} {d : Addr} {xs : List (Str × Int)} (B : Base w s.heap) (hA : A.depth < 900) (hh : A.handled = none)
    (hd : (d == sysModules) = false) (D : DictSI w s.heap d xs)
    (h : ∀ s' t, Sm s s' → Ext s.heap s'.heap → Q (.int (xs.map (·.2)).sum t) s') : wpAny (model P0 w) A (call (.ref 94) [.ref d] []) Q E s := by
  obtain ⟨o, ho, hdat, hcd⟩ := cd94 B
  refine enterF (fd := fd94) (binds := [(Str.ofString "callers", .ref d)]) B (by unfold recursionLimit; omega) ho hdat hcd rfl (BindsTo.of_eq rfl) rfl (fun n => rfl) (by decide +kernel) fun s₁ M₁ F₁ => ?_
  refine wpAny_execs_cons ?_
  refine wpAny_Assign_Name (wpAny_Constant_int (stF F₁ (by kernel_rfl) fun s₂ M₂ F₂ S₂ => ?_))
  refine wpAny_execs_cons ?_
  obtain ⟨kvs, D0, I0⟩ := D
  have D2 : s₂.heap.DictOf (strKind P0 w) d kvs := D0.at fun o e => F₂.keep _ _ e
  obtain ⟨od, _, _, hod, _⟩ := D0
  refine For_rule (fun _ => False) (fun _ i v _ => ∃ t, v (Str.ofString "nc") = some (.int (((xs.take i).map (·.2)).sum) t)) F₂ (fun _ q => q.elim)
    (src_values (A := A.deeper _) hh hd D2 (F₂.notPriv hod) (fun q => q) (fun Q' q => nmF F₂ rfl q (by kernel_rfl))) (fun _ _ _ _ => ⟨_, rfl⟩) (by kernel_rfl) (fun _ _ _ _ _ _ a _ => a) ?_ ?_
  · rintro Z i val s₃ v hi ⟨k, hk⟩ M₃ _ _ F₃ ⟨t, ht⟩ E'
    obtain ⟨n, tn, hx, rfl⟩ := I0.get hk
    refine wpAny_execs_cons (wpAny_AugAssign_Name (ldF F₃ (by rw [if_neg (by decide)]; exact ht) (by kernel_rfl) (nmF F₃ rfl ?_ (by kernel_rfl))))
    refine iadd_int (stF F₃ (by kernel_rfl) fun s₄ M₄ F₄ S₄ => ?_)
    refine wpAny_execs_nil ⟨⟨M₄.gens.trans M₃.gens, M₄.os.trans M₃.os⟩, fun b o hp _ e => S₄ b o hp e, _, F₄, s₃.toks, ?_⟩
    rw [if_pos rfl, sum_take_succ hx]
  · rintro Z s₃ v M₃ F₃ ⟨t, ht⟩
    refine wpAny_execs_cons (wpAny_Return_some (nmF F₃ ht ?_ (by kernel_rfl)))
    rw [I0.length, List.take_length]
    exact h _ _ ((M₁.trans' ⟨M₂.gens, M₂.os⟩).trans' M₃) F₃.keep
end Zd

namespace Zd
open PySem PySem.W PyProof.Rows PySem.Calls

/-- for a, b in d.items() -/
theorem For_items {w : World} {A : Around} {E : Value → Shared → Prop} {Q : Flow → Shared → Prop} {s : Shared} {env : Env} {h₀ : Heap} {v₀ : Str → Option Value} {xk xv : Str} {pk pv pt pos apos cpos : Pos} {x1} {o : Expr} {body : List Stmt}
    {d : Addr} {kvs : List (Str × Value)} (X : Addr → Prop) (J : (Addr → Prop) → Nat → (Str → Option Value) → Heap → Prop)
    (hh : A.handled = none) (hdS : (d == sysModules) = false) (F₀ : FF env h₀ v₀ s.heap) (hX : ∀ b, X b → ∃ o, s.heap.get? b = some o) (hm : s.heap.DictOf (strKind P0 w) d kvs) (hdp : ¬ Priv env d) (hdX : ¬ X d)
    (ho : ∀ Q', Q' (.ref d) s → wpAny (model P0 w) A (eval o env) Q' E s)
    (h0 : ∀ Z h, (∀ b, Z b → s.heap.get? b = none) → Ext s.heap h → J Z 0 v₀ h) (hxk : Held env xk = true) (hxv : Held env xv = true)
    (hJ : ∀ Z i v h h₁, i ≤ kvs.length → J Z i v h → (∀ b o, ¬ Priv env b → ¬ Z b → h.get? b = some o → h₁.get? b = some o) → J Z i v h₁)
    (turn : ∀ Z i k kt val s' v, kvs[i]? = some (k, val) → Sm s s' → (∀ b, Z b → ∃ o, s'.heap.get? b = some o) → (∀ b, Z b → ¬ X b ∧ ¬ Priv env b) →
      FF env h₀ (fun y => if y = xv then some val else if y = xk then some (.str k kt) else v y) s'.heap → J Z i v s'.heap →
      Sure w A (execs body env) (fun f s₃ => match f with
        | .next | .cont => Sm s s₃ ∧ Pres env X s'.heap s₃.heap ∧ (∃ v', FF env h₀ v' s₃.heap ∧ J Z (i + 1) v' s₃.heap)
        | .brk => Q .next s₃
        | .ret r => Q (.ret r) s₃) s')
    (done : ∀ Z s' v, Sm s s' → FF env h₀ v s'.heap → J Z kvs.length v s'.heap → Q .next s')
    (hbase : attributeBase o (Str.ofString "items") env (eval o env) = eval o env := by rfl) (hline : (apos.endLine == cpos.line) = true := by rfl)
    (hs : ∀ x, foldedSetIterable (.Call (.Attribute o (Str.ofString "items") apos) [] [] cpos) env x = pure x := by intro _; rfl) :
    wpAny (model P0 w) A (exec (.For (.Tuple [.Name xk pk, .Name xv pv] x1 pt) (.Call (.Attribute o (Str.ofString "items") apos) [] [] cpos) body [] pos) env) Q E s := by
  obtain ⟨ep, hm'⟩ := hm.dictAt
  have hlt := hm'.lt_size
  refine wpAny_For (wpAny_Call_items hdS hm hbase hline ho (wpAny_pyIter_items (knd := strKind P0 w) (d := d) (kvs := kvs) (ep := ep) ⟨_, Heap.get?_push_size _ rfl, rfl, rfl⟩ (hm'.push _) ?_)) hs
  have k2 : Ext s.heap ((s.heap.push { cls := .type "dict_items", data := .fields #[.ref d] }).push { cls := .type "dict_itemiterator", data := .fields #[.none, .bool false, .ref d, .int 0 0, .int kvs.length 0, .int ep 0, .none, .none] }) := (Ext.push' _ _).trans' (Ext.push' _ _)
  have hsz : (s.heap.push { cls := .type "dict_items", data := .fields #[.ref d] }).objs.size = s.heap.objs.size + 1 := Heap.size_push ..
  show codeAny _ _ (.forLoop _ (.ref (s.heap.push { cls := .type "dict_items", data := .fields #[.ref d] }).objs.size) _ _ _) _ { s with heap := _ }
  have hit0 : IsItemIter ((s.heap.push { cls := .type "dict_items", data := .fields #[.ref d] }).push { cls := .type "dict_itemiterator", data := .fields #[.none, .bool false, .ref d, .int 0 0, .int kvs.length 0, .int ep 0, .none, .none] }) (s.heap.push { cls := .type "dict_items", data := .fields #[.ref d] }).objs.size d 0 kvs.length ep .none .none := Heap.get?_push_size _ rfl
  have hnew : s.heap.get? (s.heap.push { cls := .type "dict_items", data := .fields #[.ref d] }).objs.size = none := by
    cases e : s.heap.get? (s.heap.push { cls := .type "dict_items", data := .fields #[.ref d] }).objs.size with
    | none => rfl
    | some o' => exact absurd (Heap.lt_size e) (by rw [hsz]; exact Nat.not_lt_of_le (Nat.le_succ _))
  revert hit0 k2 hnew
  generalize ((s.heap.push { cls := .type "dict_items", data := .fields #[.ref d] }).push { cls := .type "dict_itemiterator", data := .fields #[.none, .bool false, .ref d, .int 0 0, .int kvs.length 0, .int ep 0, .none, .none] }) = h₂
  generalize (s.heap.push { cls := .type "dict_items", data := .fields #[.ref d] }).objs.size = it
  intro k2 hit0 hnew
  have F₂ := F₀.ext k2
  have hitP : ¬ Priv env it := fun p => by
    obtain ⟨o, ho⟩ := F₀.old it p
    rw [hnew] at ho; cases ho
  have hit00 : h₀.get? it = none := by
    cases e : h₀.get? it with
    | none => rfl
    | some o => have := F₀.keep it o e; rw [hnew] at this; cases this
  have hitX : ¬ X it := fun p => by
    obtain ⟨o, ho⟩ := hX it p
    rw [hnew] at ho; cases ho
  have hdit : d ≠ it := fun e => by
    obtain ⟨od, _, hod, _⟩ := hm'
    rw [e, hnew] at hod; cases hod
  refine codeAny_forLoop_any
    (fun n s' => ∃ i ok ov, i ≤ kvs.length ∧ n = kvs.length + 1 - i ∧ Sm s s' ∧ IsItemIter s'.heap it d i kvs.length ep ok ov ∧ s'.heap.DictAt (strKind P0 w) d kvs ep ∧ ∃ v, FF env h₀ v s'.heap ∧ J (· = it) i v s'.heap) ?_ (kvs.length + 1)
    ⟨0, .none, .none, Nat.zero_le _, rfl, ⟨rfl, rfl⟩, hit0, hm'.keep k2, v₀, F₂, h0 _ _ (fun b hb => by rw [hb]; exact hnew) k2⟩
  rintro n s' ⟨i, ok, ov, hi, rfl, M, hit', hm1, v, F', hj⟩
  have mutI : ∀ {h h₁ : Heap} {v : Str → Option Value}, FF env h₀ v h → (∀ b o, b ≠ it → h.get? b = some o → h₁.get? b = some o) → FF env h₀ v h₁ := fun F k => F.mut hitP hit00 k
  cases hv : kvs[i]? with
  | none =>
    have hsz' : i = kvs.length := Nat.le_antisymm hi (by simpa using hv)
    refine wpAny_pyNext_items_end hh hit' hm1 hv fun h₁ he₁ => wpAny_execs_nil ?_
    subst hsz'
    exact done (· = it) _ v ⟨M.gens, M.os⟩ (mutI F' he₁) (hJ _ _ v _ h₁ (Nat.le_refl _) hj fun b o _ hb e => he₁ b o hb e)
  | some kv =>
    obtain ⟨k, val⟩ := kv
    have hlt' : i < kvs.length := (List.getElem?_eq_some_iff.mp hv).1
    refine wpAny_pyNext_items_item hit' hm1 hv fun key h₁ hkey heo ht₁ hz₁ hk₁ => ?_
    obtain ⟨kt, rfl⟩ := Value.isStrOf_shape hkey
    refine wpAny_letOwnedTupleGo_items heo fun h₃ he₃ hs₃ => ?_
    replace hs₃ : Heap.SameBut it h₁ h₃ := hs₃
    have hiH : it < s'.heap.objs.size := Heap.lt_size hit'
    have ht₃ : h₃.IsTuple s'.heap.objs.size #[.str k kt, val] := ⟨_, (hs₃.2 _ (Nat.ne_of_gt hiH)).trans ht₁, rfl, _, rfl⟩
    have hz₃ : h₃.objs.size = s'.heap.objs.size + 1 := hs₃.1.trans hz₁
    refine wpAny_assign_Tuple hh ht₃ rfl rfl fun h₄ hx₄ => ?_
    replace hx₄ : Heap.ExtBut h₃.objs.size h₃ h₄ := hx₄
    have up : ∀ b o, b ≠ it → s'.heap.get? b = some o → h₄.get? b = some o := fun b o hb e =>
      hx₄ b o (by rw [hz₃]; exact Nat.ne_of_lt (Nat.lt_succ_of_lt (Heap.lt_size e))) (hs₃.extBut b o hb (hk₁ b o hb e))
    have F₄ := mutI F' up
    have he₄ : IsItemIter h₄ it d (i + 1) kvs.length ep (.str k kt) val := hx₄ it _ (by rw [hz₃]; exact Nat.ne_of_lt (Nat.lt_succ_of_lt hiH)) he₃
    show wpAny _ _ (do holding [val] (assign (.Name xk pk) env (.str k kt)); do holding [] (assign (.Name xv pv) env val); pure ()) _ _ _
    refine wpAny_bind (wpAny_holding (wpAny_assign_Name (stF (s := { s' with heap := h₄ }) F₄ hxk fun s₅ M₅ F₅ S₅ => ?_)))
    refine wpAny_bind (wpAny_holding (wpAny_assign_Name (stF F₅ hxv fun s₆ M₆ F₆ S₆ => wpAny_pure ?_)))
    have S : Stay env h₄ s₆.heap := Stay.trans S₅ S₆
    have M' : Sm s s₆ := ⟨M₆.gens.trans (M₅.gens.trans M.gens), M₆.os.trans (M₅.os.trans M.os)⟩
    have hj₆ := hJ (· = it) i v s'.heap s₆.heap hi hj fun b o hp hb e => S b o hp (up b o hb e)
    have hm₆ : s₆.heap.DictAt (strKind P0 w) d kvs ep := hm1.at' fun o e => S d o hdp (up d o hdit e)
    have he₆ : IsItemIter s₆.heap it d (i + 1) kvs.length ep (.str k kt) val := S it _ hitP he₄
    refine wpAny_mono (turn (· = it) i k kt val s₆ v hv M' (fun b hb => ⟨_, hb ▸ he₆⟩) (fun b hb => by rw [hb]; exact ⟨hitX, hitP⟩) F₆ hj₆ _) (fun f s₇ h₇ => ?_) fun _ _ e => e
    have fin : (Sm s s₇ ∧ Pres env X s₆.heap s₇.heap ∧ (∃ v', FF env h₀ v' s₇.heap ∧ J (· = it) (i + 1) v' s₇.heap)) →
        ∃ m, m < kvs.length + 1 - i ∧ ∃ i' ok ov, i' ≤ kvs.length ∧ m = kvs.length + 1 - i' ∧ Sm s s₇ ∧ IsItemIter s₇.heap it d i' kvs.length ep ok ov ∧ s₇.heap.DictAt (strKind P0 w) d kvs ep ∧ ∃ v, FF env h₀ v s₇.heap ∧ J (· = it) i' v s₇.heap :=
      fun ⟨m, c, v', a, b⟩ => ⟨kvs.length + 1 - (i + 1), by omega, i + 1, _, _, hlt', rfl, m, c it _ hitP hitX he₆, hm₆.at' fun o e => c d o hdp hdX e, v', a, b⟩
    cases f with
    | next => exact fin h₇
    | cont => exact fin h₇
    | brk => exact h₇
    | ret r => exact h₇
end Zd

namespace Zd
open PySem PySem.W PyProof.Rows PySem.Calls

def gEs (w : World) : Array DictEntry := match (o3 w.params).data with | .dict es _ => es | _ => #[]
def gFind (w : World) (x : Str) : Option Value := nsFind (gEs w) x
theorem gKeys (w : World) : StrKeys (gEs w) := by
  have h : ((gEs w).all fun e => match e.key with | .str .. => true | _ => false) = true := by kernel_rfl
  intro e he
  have := (Array.all_eq_true_iff_forall_mem.mp h) e he
  cases hk : e.key with
  | str n t => exact ⟨n, t, rfl⟩
  | _ => rw [hk] at this; cases this
theorem Base.g {w : World} {h : Heap} (B : Base w h) : h.Ns mainGlobals (gFind w) :=
  ⟨_, gEs w, _, B.k 3 _ rfl, rfl, gKeys w, fun _ => rfl⟩
theorem Base.size {w : World} {h : Heap} (B : Base w h) : 276 < h.objs.size := Heap.lt_size (B.k 276 _ rfl)
theorem Base.newNe {w : World} {h : Heap} (B : Base w h) {a : Addr} (e : h.objs.size ≤ a) : (a == sysModules) = false := by
  have := B.size
  refine beq_eq_false_iff_ne.mpr fun q => ?_
  have h1 : sysModules = 1 := rfl
  rw [q, h1] at e
  omega

section
variable {w : World} {A : Around} {E : Value → Shared → Prop} {s : Shared} {env : Env} {h₀ : Heap} {v : Str → Option Value}
theorem nmG {x : Str} {pos : Pos} {r : Value} {Q : Value → Shared → Prop} (B : Base w s.heap) (hv : gFind w x = some r) (h : Q r s) (hk : env.scope.kind = .function) (hx : env.kindOf x = some .globalImplicit) (hg : env.globals = mainGlobals)
    (hd : (x == ("__debug__" : Str)) = false := by decide) : wpAny (model P0 w) A (eval (.Name x pos) env) Q E s :=
  Name_function_global hk hx (loadGlobal_global (hg ▸ B.g) hv h) hd
theorem nmB {x : Str} {pos : Pos} {r : Value} {Q : Value → Shared → Prop} (B : Base w s.heap) (hm : gFind w x = none) (hv : bootBuiltins x = some r) (h : Q r s) (hk : env.scope.kind = .function) (hx : env.kindOf x = some .globalImplicit) (hg : env.globals = mainGlobals)
    (hb : env.builtins = builtinsNs) (hn : x ≠ "__name__" := by decide) (hd : (x == ("__debug__" : Str)) = false := by decide) : wpAny (model P0 w) A (eval (.Name x pos) env) Q E s := by
  obtain ⟨mb, b1, b2⟩ := B.b
  exact Name_function_global hk hx (loadGlobal_builtin (hg ▸ B.g) hm (hb ▸ b1) ((b2 x hn).trans hv) h) hd

/-- f(e) with a builtin -/
theorem callB1 {id : String} {x : Str} {p pos : Pos} {e : Expr} {Q : Value → Shared → Prop} (hf : ∀ Q' : Value → Shared → Prop, Q' (.builtin id) s → wpAny (model P0 w) A (eval (.Name x p) env) Q' E s)
    (h : wpAny (model P0 w) A (eval e env) (fun a s₁ => wpAny (model P0 w) A (call (.builtin id) [a] []) Q E s₁) E s)
    (ht : backTo pos (starEach [e] env) = [(false, eval e env)] := by rfl) : wpAny (model P0 w) A (eval (.Call (.Name x p) [e] [] pos) env) Q E s := by
  refine Call_Name ht (hf _ ?_)
  exact callWith_builtin rfl (evalArgs_plain (spliced_cons (wpAny_mono h (fun _ _ q => spliced_nil q) fun _ _ q => q)))
theorem callB2 {id : String} {x : Str} {p pos : Pos} {e e' : Expr} {Q : Value → Shared → Prop} (hf : ∀ Q' : Value → Shared → Prop, Q' (.builtin id) s → wpAny (model P0 w) A (eval (.Name x p) env) Q' E s)
    (h : wpAny (model P0 w) A (eval e env) (fun a s₁ => wpAny (model P0 w) A (eval e' env) (fun b s₂ => wpAny (model P0 w) A (call (.builtin id) [a, b] []) Q E s₂) E s₁) E s)
    (ht : backTo pos (starEach [e, e'] env) = [(false, eval e env), (false, eval e' env)] := by rfl) : wpAny (model P0 w) A (eval (.Call (.Name x p) [e, e'] [] pos) env) Q E s := by
  refine Call_Name ht (hf _ ?_)
  exact callWith_builtin rfl (evalArgs_plain (spliced_cons (wpAny_mono h (fun _ _ q => spliced_cons (wpAny_mono q (fun _ _ q => spliced_nil q) fun _ _ q => q)) fun _ _ q => q)))
/-- T(e) with a built-in class -/
theorem callT1 {T : String} {x : Str} {p pos : Pos} {e : Expr} {Q : Value → Shared → Prop} (hf : ∀ Q' : Value → Shared → Prop, Q' (.type T) s → wpAny (model P0 w) A (eval (.Name x p) env) Q' E s)
    (h : wpAny (model P0 w) A (eval e env) (fun a s₁ => wpAny (model P0 w) A (call (.type T) [a] []) Q E s₁) E s)
    (ht : backTo pos (starEach [e] env) = [(false, eval e env)] := by rfl) : wpAny (model P0 w) A (eval (.Call (.Name x p) [e] [] pos) env) Q E s := by
  refine Call_Name ht (hf _ ?_)
  exact PySem.callWith_type rfl (evalArgs_plain (spliced_cons (wpAny_mono h (fun _ _ q => spliced_nil q) fun _ _ q => q)))
/-- f(e), f(e, e') with a def of the text -/
theorem callWith_def {f : Addr} {pos : Pos} {args : List (Bool × Sem Value)} {Q : Value → Shared → Prop}
    (h : wpAny (model P0 w) A (evalArgs (.ref f) true args []) (fun x s₁ => ∃ o fd, (s₁.heap.get? f = some o ∧ o.data = .func fd) ∧ wpAny (model P0 w) A (call (.ref f) x.pos x.kw) Q E s₁) E s) :
    wpAny (model P0 w) A (callWith pos (.ref f) [] args []) Q E s := by
  unfold callWith
  refine wpAny_bind (wpAny_holding (wpAny_mono h (fun x s₁ h₁ => wpAny_bind (wpAny_standAt ?_)) fun _ _ x => x))
  obtain ⟨o, fd, ⟨h1, h2⟩, h₁⟩ := h₁
  have tail : ∀ {t : Sem Value}, wpAny (model P0 w) A t Q E s₁ → wpAny (model P0 w) A (t >>= fun r => holding [r] point >>= fun _ => pure r) Q E s₁ :=
    fun ht => wpAny_bind (wpAny_mono ht (fun r s₂ hr => wpAny_bind (wpAny_holding (wpAny_point (wpAny_pure hr)))) fun _ _ x => x)
  cases hs : args.any (·.1) <;> simp only [List.any_nil, Bool.or_false] <;>
    refine wpAny_bind (m := keeperOf (.ref f)) ?_ <;> unfold keeperOf <;>
    refine wpAny_bind (wpAny_load h1 ?_) <;> rw [h2] <;> refine wpAny_pure ?_
  · first
      | refine wpAny_ite ?_
      | skip
    split <;> first
      | exact tail h₁
      | exact tail (by unfold callMarked; exact wpAny_keep h₁)
  · first
      | exact tail (by unfold callMarked; exact wpAny_keep h₁)
      | exact tail h₁
theorem callD1 {f : Addr} {x : Str} {p pos : Pos} {e : Expr} {Q : Value → Shared → Prop} (hf : ∀ Q' : Value → Shared → Prop, Q' (.ref f) s → wpAny (model P0 w) A (eval (.Name x p) env) Q' E s)
    (h : wpAny (model P0 w) A (eval e env) (fun a s₁ => ∃ o fd, (s₁.heap.get? f = some o ∧ o.data = .func fd) ∧ wpAny (model P0 w) A (call (.ref f) [a] []) Q E s₁) E s)
    (ht : backTo pos (starEach [e] env) = [(false, eval e env)] := by rfl) : wpAny (model P0 w) A (eval (.Call (.Name x p) [e] [] pos) env) Q E s := by
  refine Call_Name ht (hf _ ?_)
  exact callWith_def (evalArgs_plain (spliced_cons (wpAny_mono h (fun _ _ q => spliced_nil q) fun _ _ q => q)))
theorem callD2 {f : Addr} {x : Str} {p pos : Pos} {e e' : Expr} {Q : Value → Shared → Prop} (hf : ∀ Q' : Value → Shared → Prop, Q' (.ref f) s → wpAny (model P0 w) A (eval (.Name x p) env) Q' E s)
    (h : wpAny (model P0 w) A (eval e env) (fun a s₁ => wpAny (model P0 w) A (eval e' env) (fun b s₂ => ∃ o fd, (s₂.heap.get? f = some o ∧ o.data = .func fd) ∧ wpAny (model P0 w) A (call (.ref f) [a, b] []) Q E s₂) E s₁) E s)
    (ht : backTo pos (starEach [e, e'] env) = [(false, eval e env), (false, eval e' env)] := by rfl) : wpAny (model P0 w) A (eval (.Call (.Name x p) [e, e'] [] pos) env) Q E s := by
  refine Call_Name ht (hf _ ?_)
  exact callWith_def (evalArgs_plain (spliced_cons (wpAny_mono h (fun _ _ q => spliced_cons (wpAny_mono q (fun _ _ q => spliced_nil q) fun _ _ q => q)) fun _ _ q => q)))
end

/-! ints of a table -/
def storedI (xs : List (Str × Int)) (k : Str) (n : Int) : List (Str × Int) := if xs.any (fun kv => kv.1 = k) then xs.map (fun kv => if kv.1 = k then (kv.1, n) else kv) else xs ++ [(k, n)]
def valI (xs : List (Str × Int)) (k : Str) : Option Int := (xs.find? fun kv => kv.1 = k).map (·.2)
theorem IntsOf.snoc {kvs : List (Str × Value)} {xs : List (Str × Int)} (h : IntsOf kvs xs) (k : Str) (n : Int) (t : Tok) : IntsOf (kvs ++ [(k, .int n t)]) (xs ++ [(k, n)]) := by
  induction h with
  | nil => exact .cons .nil
  | cons _ ih => exact .cons ih
theorem IntsOf.any {kvs : List (Str × Value)} {xs : List (Str × Int)} (h : IntsOf kvs xs) (k : Str) : kvs.any (fun kv => kv.1 = k) = xs.any (fun kv => kv.1 = k) := by
  induction h with
  | nil => rfl
  | cons _ ih => simp [List.any_cons, ih]
theorem IntsOf.set {kvs : List (Str × Value)} {xs : List (Str × Int)} (h : IntsOf kvs xs) (k : Str) (n : Int) (t : Tok) :
    IntsOf (kvs.map fun kv => if kv.1 = k then (kv.1, .int n t) else kv) (xs.map fun kv => if kv.1 = k then (kv.1, n) else kv) := by
  induction h with
  | nil => exact .nil
  | @cons k' n' t' l r _ ih =>
    rw [List.map_cons, List.map_cons]
    by_cases e : k' = k
    · simp only [e, if_true]; exact .cons ih
    · simp only [e, if_false]; exact .cons ih
theorem IntsOf.stored {kvs : List (Str × Value)} {xs : List (Str × Int)} (h : IntsOf kvs xs) (k : Str) (n : Int) (t : Tok) : IntsOf (PySem.stored kvs k (.int n t)) (storedI xs k n) := by
  unfold PySem.stored storedI
  rw [h.any k]
  split
  · exact h.set k n t
  · exact h.snoc k n t
theorem IntsOf.valueAt {kvs : List (Str × Value)} {xs : List (Str × Int)} (h : IntsOf kvs xs) (k : Str) :
    (∃ n t, valI xs k = some n ∧ PySem.valueAt kvs k = some (.int n t)) ∨ (valI xs k = none ∧ PySem.valueAt kvs k = none) := by
  unfold valI PySem.valueAt
  induction h with
  | nil => right; exact ⟨rfl, rfl⟩
  | @cons k' n' t' l r _ ih =>
    rw [List.find?_cons, List.find?_cons]
    by_cases e : k' = k
    · left; exact ⟨n', t', by simp [e], by simp [e]⟩
    · simpa [e] using ih
section
variable {w : World} {A : Around} {E : Value → Shared → Prop} {s : Shared} {d : Addr} {xs : List (Str × Int)} {k : Str} {t : Tok}
theorem in_SI {Q : Value → Shared → Prop} (hd : (d == sysModules) = false) (D : DictSI w s.heap d xs) (h : ∀ s', Sm s s' → s'.heap = s.heap → Q (.bool (valI xs k).isSome) s') :
    wpAny (model P0 w) A (compareOp .In (.str k t) (.ref d)) Q E s := by
  obtain ⟨kvs, D, I⟩ := D
  refine wpAny_in_of (strKind_is P0 w k t) hd D.mapOf ?_
  have e : (PySem.valueAt kvs k).isSome = (valI xs k).isSome := by
    rcases I.valueAt k with ⟨n, u, a, b⟩ | ⟨a, b⟩ <;> rw [a, b] <;> rfl
  rw [e]
  exact h _ ⟨rfl, rfl⟩ rfl
theorem get_SI {n : Int} {Q : Value → Shared → Prop} (D : DictSI w s.heap d xs) (hv : valI xs k = some n) (h : ∀ s' u, Sm s s' → s'.heap = s.heap → Q (.int n u) s') :
    wpAny (model P0 w) A (getItem (.ref d) (.str k t)) Q E s := by
  obtain ⟨kvs, D, I⟩ := D
  rcases I.valueAt k with ⟨n', u, a, b⟩ | ⟨a, b⟩
  · rw [hv] at a; cases a
    exact wpAny_getItem_of (strKind_is P0 w k t) D.mapOf b (h _ u ⟨rfl, rfl⟩ rfl)
  · rw [hv] at a; cases a
theorem set_SI {n : Int} {u : Tok} {Q : Unit → Shared → Prop} (D : DictSI w s.heap d xs) (hz : xs.length ≤ sizeLine) (h : ∀ s', Sm s s' → DictSI w s'.heap d (storedI xs k n) → Heap.SameBut d s.heap s'.heap → Q () s') :
    wpAny (model P0 w) A (setItem (.ref d) (.str k t) (.int n u)) Q E s := by
  obtain ⟨kvs, D, I⟩ := D
  exact wpAny_setItem_pairs (hsz := by rw [I.length]; exact hz) (strKind_is P0 w k t) D fun h' D' hs => h _ ⟨rfl, rfl⟩ ⟨_, D', I.stored k n u⟩ hs
theorem DictSI.new (h : Heap) : DictSI w (h.push { cls := .type "dict", data := .dict #[] }) h.objs.size [] := ⟨[], Heap.DictOf.new h, .nil⟩
theorem IntsOf.keys {kvs : List (Str × Value)} {xs : List (Str × Int)} (I : IntsOf kvs xs) : kvs.map (·.1) = xs.map (·.1) := by
  induction I with
  | nil => rfl
  | cons _ ih => simp [ih]
theorem DictSI.nodup {h : Heap} (D : DictSI w h d xs) : (xs.map (·.1)).Nodup := by
  obtain ⟨kvs, ⟨_, _, _, _, _, _, _, _, hn⟩, I⟩ := D
  rw [← I.keys]; exact hn
end
end Zd

namespace Zd
open PySem PySem.W PyProof.Rows PySem.Calls

def addStep (acc : List (Str × Int)) (kn : Str × Int) : List (Str × Int) := match valI acc kn.1 with
  | some m => storedI acc kn.1 (m + kn.2)
  | none => storedI acc kn.1 kn.2
def addC (xs ys : List (Str × Int)) : List (Str × Int) := ys.foldl addStep xs
theorem storedI_len (xs : List (Str × Int)) (k : Str) (n : Int) : (storedI xs k n).length ≤ xs.length + 1 := by
  unfold storedI; split <;> simp
theorem addStep_len (xs : List (Str × Int)) (kn : Str × Int) : (addStep xs kn).length ≤ xs.length + 1 := by
  unfold addStep; split <;> exact storedI_len ..
theorem addC_len (ys : List (Str × Int)) : ∀ xs : List (Str × Int), (addC xs ys).length ≤ xs.length + ys.length := by
  induction ys with
  | nil => intro xs; exact Nat.le_refl _
  | cons y r ih =>
    intro xs
    have h1 := ih (addStep xs y)
    have h2 := addStep_len xs y
    show (addC (addStep xs y) r).length ≤ _
    rw [List.length_cons]; omega
theorem addC_snoc {xs ys : List (Str × Int)} {i : Nat} {kn : Str × Int} (h : ys[i]? = some kn) : addC xs (ys.take (i + 1)) = addStep (addC xs (ys.take i)) kn := by
  unfold addC; rw [List.take_add_one, h]; simp
theorem storedI_take {xs : List (Str × Int)} {i : Nat} {k : Str} {n : Int} (hn : (xs.map (·.1)).Nodup) (h : xs[i]? = some (k, n)) : storedI (xs.take i) k n = xs.take (i + 1) := by
  unfold storedI
  have : (xs.take i).any (fun kv => kv.1 = k) = false := by
    rw [List.any_eq_false]
    intro x hx q
    have q : x.1 = k := by simpa using q
    obtain ⟨j, hj, e⟩ := List.getElem_of_mem hx
    have hji : j < i := by have := hj; rw [List.length_take] at this; omega
    have hjl : j < xs.length := by have := hj; rw [List.length_take] at this; omega
    have hil : i < xs.length := (List.getElem?_eq_some_iff.mp h).1
    have e1 : xs[j].1 = k := by rw [List.getElem_take] at e; rw [e]; exact q
    have e2 : xs[i].1 = k := by rw [(List.getElem?_eq_some_iff.mp h).2]
    have := (List.pairwise_iff_getElem.mp hn) j i (by simpa using hjl) (by simpa using hil) hji
    rw [List.getElem_map, List.getElem_map, e1, e2] at this
    exact this rfl
  rw [this, List.take_add_one, h]
  simp

def fd87 : FuncData := ⟨(Str.ofString "add_callers"), (Str.ofString "add_callers"), fParams (st 10), .stmts (fBody (st 10)), fScope (st 10), 3, [], .none, .none, .none, .str (Str.ofString "cpy313.pstats") 554, none, .ref 86, .none, 0⟩
theorem cd87 {w : World} {h : Heap} (B : Base w h) : ∃ o, h.get? 87 = some o ∧ o.data = .func fd87 ∧ h.CodeRec (.ref 86) (Str.ofString "add_callers") :=
  ⟨_, B.k 87 _ rfl, rfl, 86, _, _, _, rfl, B.k 86 _ rfl, rfl, rfl⟩

theorem isi_tuple_int {w : World} {A : Around} {E : Value → Shared → Prop} {s : Shared} {n : Int} {t : Tok} {Q : Value → Shared → Prop} (h : ∀ s', Sm s s' → s'.heap = s.heap → Q (.bool false) s') :
    wpAny (model P0 w) A (call (.builtin "isinstance") [.int n t, .type "tuple"] []) Q E s :=
  call_isinstance (isinstance_false_int (by decide) (by kernel_rfl) (by rw [isSubtype_type]; kernel_rfl)) (h _ ⟨rfl, rfl⟩ rfl)

theorem add_callers_spec {w : World} {A : Around} {E : Value → Shared → Prop} {s : Shared} {Q : Value → Shared → Prop} {a b : Addr} {xs ys : List (Str × Int)} (B : Base w s.heap) (hA : A.depth < 900) (hh : A.handled = none)
    (ha : (a == sysModules) = false) (hb : (b == sysModules) = false) (D : DictSI w s.heap a xs) (D' : DictSI w s.heap b ys) (hz : xs.length + ys.length ≤ 1000000)
    (h : ∀ s' r, Sm s s' → Ext s.heap s'.heap → s.heap.get? r = none → (r == sysModules) = false → DictSI w s'.heap r (addC xs ys) → Q (.ref r) s') : wpAny (model P0 w) A (call (.ref 87) [.ref a, .ref b] []) Q E s := by
  obtain ⟨o, ho, hdat, hcd⟩ := cd87 B
  refine enterF (fd := fd87) (binds := [(Str.ofString "target", .ref a), (Str.ofString "source", .ref b)]) B (by unfold recursionLimit; omega) ho hdat hcd rfl (BindsTo.of_eq rfl) rfl (fun n => rfl) (by decide +kernel) fun s₁ M₁ F₁ => ?_
  refine wpAny_execs_cons ?_
  refine wpAny_Assign_Name (wpAny_Dict_empty ?_)
  have hR0 : s.heap.get? s₁.heap.objs.size = none := by
    cases e : s.heap.get? s₁.heap.objs.size with
    | none => rfl
    | some o => exact absurd (Heap.lt_size (F₁.keep _ _ e)) (Nat.lt_irrefl _)
  have hRp : ¬ Priv (callEnvC fd87 s.heap.objs.size 87) s₁.heap.objs.size := F₁.size_notPriv (Nat.le_refl _)
  have hRs : (s₁.heap.objs.size == sysModules) = false := (B.ext F₁.keep).newNe (Nat.le_refl _)
  have DR := DictSI.new (w := w) s₁.heap
  have FR := F₁.ext (Ext.push' s₁.heap { cls := .type "dict", data := .dict #[] })
  generalize s₁.heap.objs.size = R at hR0 hRp hRs DR ⊢
  refine stF (s := { s₁ with heap := _ }) FR (by kernel_rfl) fun s₂ M₂ F₂ S₂ => ?_
  have D2 : DictSI w s₂.heap R [] := DR.at fun o e => S₂ R o hRp e
  obtain ⟨kvs, Dk, Ik⟩ := D
  have hxn := (DictSI.nodup ⟨kvs, Dk, Ik⟩ : (xs.map (·.1)).Nodup)
  obtain ⟨lvs, Dl, Il⟩ := D'
  obtain ⟨oa, _, _, hoa, _⟩ := id Dk
  obtain ⟨ob, _, _, hob, _⟩ := id Dl
  have hpa := F₂.notPriv hoa
  have hpb := F₂.notPriv hob
  have haR : a ≠ R := fun e => by rw [e, hR0] at hoa; cases hoa
  have hbR : b ≠ R := fun e => by rw [e, hR0] at hob; cases hob
  have Sm2 : Sm s s₂ := ⟨M₂.gens.trans M₁.gens, M₂.os.trans M₁.os⟩
  refine wpAny_execs_cons ?_
  refine For_items (fun c => c = R) (fun Z i v h => v (Str.ofString "new_callers") = some (.ref R) ∧ v (Str.ofString "source") = some (.ref b) ∧ DictSI w h R (xs.take i) ∧ ¬ Z R)
    (A := A.deeper _) hh ha F₂ (fun c q => q ▸ D2.lt) (Dk.at fun o e => F₂.keep _ _ e) hpa haR (fun Q' q => nmF F₂ rfl q (by kernel_rfl))
    (fun Z h hZ k => ⟨rfl, rfl, D2.ext k, fun q => by obtain ⟨o, ho⟩ := D2.lt; rw [hZ R q] at ho; cases ho⟩) (by kernel_rfl) (by kernel_rfl)
    (fun Z i v h h₁ _ ⟨x1, x2, x3, x4⟩ k => ⟨x1, x2, x3.at fun o e => k R o hRp x4 e, x4⟩) ?_ ?_
  · rintro Z i k kt val s₃ v hk M₃ _ _ F₃ ⟨x1, x2, x3, x4⟩ E'
    obtain ⟨n, tn, hx, rfl⟩ := Ik.get hk
    refine wpAny_execs_cons (wpAny_Assign_Subscript (nmF F₃ rfl (nmF F₃ (by rw [if_neg (by decide), if_neg (by decide)]; exact x1) (nmF F₃ (by rw [if_neg (by decide), if_pos rfl]) ?_ (by kernel_rfl)) (by kernel_rfl)) (by kernel_rfl)))
    refine set_SI x3 (by rw [List.length_take, sizeLine_eq]; omega) fun s₄ M₄ D₄ hs => ?_
    rw [storedI_take hxn hx] at D₄
    refine wpAny_execs_nil ⟨M₃.trans' M₄, fun c o _ hc e => hs.extBut c o hc e, _, F₃.mut hRp hR0 (fun c o hc e => hs.extBut c o hc e), ?_, ?_, D₄, x4⟩
    · rw [if_neg (by decide), if_neg (by decide)]; exact x1
    · rw [if_neg (by decide), if_neg (by decide)]; exact x2
  rintro _ s₃ v M₃ F₃ ⟨x1, x2, x3, _⟩
  rw [Ik.length, List.take_length] at x3
  have Sm3 := Sm2.trans' M₃
  refine wpAny_execs_cons ?_
  refine For_items (fun c => c = R) (fun Z i v h => v (Str.ofString "new_callers") = some (.ref R) ∧ DictSI w h R (addC xs (ys.take i)) ∧ ¬ Z R)
    (A := A.deeper _) hh hb F₃ (fun c q => q ▸ x3.lt) (Dl.at fun o e => F₃.keep _ _ e) hpb hbR (fun Q' q => nmF F₃ x2 q (by kernel_rfl))
    (fun Z h hZ k => ⟨x1, x3.ext k, fun q => by obtain ⟨o, ho⟩ := x3.lt; rw [hZ R q] at ho; cases ho⟩) (by kernel_rfl) (by kernel_rfl)
    (fun Z i v h h₁ _ ⟨x1, x3, x4⟩ k => ⟨x1, x3.at fun o e => k R o hRp x4 e, x4⟩) ?_ ?_
  · rintro Z i k kt val s₄ v hk M₄ _ _ F₄ ⟨x1, x3, x4⟩ E'
    obtain ⟨n, tn, hx, rfl⟩ := Il.get hk
    have hlen : (addC xs (ys.take i)).length ≤ sizeLine := by
      have h1 := addC_len (ys.take i) xs
      have h2 : (ys.take i).length ≤ ys.length := by rw [List.length_take]; omega
      rw [sizeLine_eq]; omega
    have nc : (fun y => if y = Str.ofString "caller" then some (Value.int n tn) else if y = Str.ofString "func" then some (.str k kt) else v y) (Str.ofString "new_callers") = some (.ref R) := by
      show (if _ then _ else _) = _
      rw [if_neg (by decide), if_neg (by decide)]; exact x1
    have nf : (fun y => if y = Str.ofString "caller" then some (Value.int n tn) else if y = Str.ofString "func" then some (.str k kt) else v y) (Str.ofString "func") = some (.str k kt) := by
      show (if _ then _ else _) = _
      rw [if_neg (by decide), if_pos rfl]
    have fin : ∀ s₅ : Shared, Sm s₄ s₅ → DictSI w s₅.heap R (addStep (addC xs (ys.take i)) (k, n)) → Heap.SameBut R s₄.heap s₅.heap →
        Sm s₃ s₅ ∧ Pres (callEnvC fd87 s.heap.objs.size 87) (fun c => c = R) s₄.heap s₅.heap ∧ ∃ v', FF (callEnvC fd87 s.heap.objs.size 87) s.heap v' s₅.heap ∧ v' (Str.ofString "new_callers") = some (.ref R) ∧ DictSI w s₅.heap R (addC xs (ys.take (i + 1))) ∧ ¬ Z R :=
      fun s₅ M₅ D₅ hs => ⟨M₄.trans' M₅, fun c o _ hc e => hs.extBut c o hc e, _, F₄.mut hRp hR0 (fun c o hc e => hs.extBut c o hc e), nc, by rw [addC_snoc hx]; exact D₅, x4⟩
    refine wpAny_execs_cons (wpAny_If (wpAny_isTrue_Compare1 (nmF F₄ nf (nmF F₄ nc ?_ (by kernel_rfl)) (by kernel_rfl))))
    refine in_SI hRs x3 fun s₅ M₅ e₅ => wpAny_truthy_bool ?_
    have F₅ : FF _ _ _ s₅.heap := e₅ ▸ F₄
    cases hv : valI (addC xs (ys.take i)) k with
    | some m =>
      simp only [Option.isSome_some, if_true]
      have B₅ : Base w s₅.heap := B.ext F₅.keep
      refine wpAny_execs_cons (wpAny_If (isTrue_plain (callB2 (id := "isinstance") (fun Q' q => nmB B₅ (by kernel_rfl) (by decide +kernel) q rfl (by kernel_rfl) rfl rfl) (nmF F₅ rfl (nmB B₅ (by kernel_rfl) (r := .type "tuple") (by decide +kernel) ?_ rfl (by kernel_rfl) rfl rfl) (by kernel_rfl)))))
      refine isi_tuple_int fun s₆ M₆ e₆ => wpAny_truthy_bool ?_
      have F₆ : FF _ _ _ s₆.heap := e₆ ▸ F₅
      simp only [Bool.false_eq_true, if_false]
      refine wpAny_execs_cons (wpAny_AugAssign_Subscript (nmF F₆ nc (nmF F₆ nf ?_ (by kernel_rfl)) (by kernel_rfl)))
      have x6 : DictSI w s₆.heap R (addC xs (ys.take i)) := by rw [e₆, e₅]; exact x3
      refine get_SI x6 hv fun s₇ u M₇ e₇ => ?_
      have F₇ : FF _ _ _ s₇.heap := e₇ ▸ F₆
      refine nmF F₇ rfl (iadd_int ?_) (by kernel_rfl)
      refine set_SI (s := { s₇ with toks := _ }) (show DictSI w s₇.heap R _ from e₇ ▸ x6) hlen fun s₈ M₈ D₈ hs => wpAny_execs_nil (wpAny_execs_nil (wpAny_execs_nil ?_))
      refine fin s₈ (((M₅.trans' M₆).trans' M₇).trans' ⟨M₈.gens, M₈.os⟩) ?_ ?_
      · unfold addStep; rw [hv]; exact D₈
      · have : s₇.heap = s₄.heap := by rw [e₇, e₆, e₅]
        rw [← this]; exact hs
    | none =>
      simp only [Option.isSome_none, Bool.false_eq_true, if_false]
      refine wpAny_execs_cons (wpAny_Assign_Subscript (nmF F₅ rfl (nmF F₅ nc (nmF F₅ nf ?_ (by kernel_rfl)) (by kernel_rfl)) (by kernel_rfl)))
      refine set_SI (show DictSI w s₅.heap R _ from e₅ ▸ x3) hlen fun s₆ M₆ D₆ hs => wpAny_execs_nil (wpAny_execs_nil ?_)
      refine fin s₆ (M₅.trans' M₆) ?_ (e₅ ▸ hs)
      unfold addStep; rw [hv]; exact D₆
  · rintro _ s₄ v M₄ F₄ ⟨x1, x3, _⟩
    rw [Il.length, List.take_length] at x3
    exact wpAny_execs_cons (wpAny_Return_some (nmF F₄ x1 (h _ _ (Sm3.trans' M₄) F₄.keep hR0 hRs x3) (by kernel_rfl)))
end Zd

namespace Zd
open PySem PySem.W PyProof.Rows PySem.Calls

section
variable {w : World} {A : Around} {E : Value → Shared → Prop} {s : Shared} {env : Env} {h₀ : Heap} {v : Str → Option Value}

/-- a store to a local: nothing but the frame's dict changes -/
theorem stL {n : Str} {x : Value} {Q : Unit → Shared → Prop} (F : FF env h₀ v s.heap) (hn : env.kindOf n = some .local)
    (h : ∀ s', Sm s s' → FF env h₀ (fun y => if y = n then some x else v y) s'.heap → (∀ b o, b ≠ env.locals → s.heap.get? b = some o → s'.heap.get? b = some o) → Q () s') : wpAny (model P0 w) A (storeName env n x) Q E s := by
  obtain ⟨m, hm, he⟩ := F.ns
  refine wpAny_storeName_local hn hm (fun h' hn' hs => h _ ⟨rfl, rfl⟩ ⟨F.fn, ⟨_, hn', fun y hy => ?_⟩, fun y c hc hk => ?_, fun b o e => ?_, F.new, fun b p => ?_, F.apart, F.offL⟩ fun b o p e => hs.extBut b o p e) (by rw [F.fn]; rfl)
  · by_cases hyn : y = n
    · simp [hyn]
    · simp [hyn, he y hy]
  · have hcl : c ≠ env.locals := F.offL y c (mem_of_lookup hc)
    have hyn : y ≠ n := fun e => by subst e; rw [hn] at hk; cases hk
    rw [if_neg hyn]; exact (F.cell y c hc hk).sameBut hs hcl
  · exact hs.extBut b o (fun e' => by subst e'; rw [F.new _ (.inl rfl)] at e; cases e) (F.keep b o e)
  · obtain ⟨o, ho⟩ := F.old b p
    by_cases hb : b = env.locals
    · subst hb; obtain ⟨o', _, _, ho', _⟩ := hn'; exact ⟨o', ho'⟩
    · exact ⟨o, hs.extBut b o hb ho⟩

/-- objects that are neither the frame's nor stood before are changed -/
theorem FF.muts {h h' : Heap} (F : FF env h₀ v h) {X : Addr → Prop} (hp : ∀ b, X b → ¬ Priv env b) (h0 : ∀ b, X b → h₀.get? b = none) (k : ∀ b o, ¬ X b → h.get? b = some o → h'.get? b = some o) : FF env h₀ v h' where
  fn := F.fn
  ns := let ⟨m, a, b⟩ := F.ns; ⟨m, a.at' fun o e => k _ o (fun q => hp _ q (.inl rfl)) e, b⟩
  cell := fun n c a q => let ⟨o, ho, hd⟩ := F.cell n c a q; ⟨o, k c o (fun q => hp _ q (.inr ⟨n, mem_of_lookup a⟩)) ho, hd⟩
  keep := fun b o e => k b o (fun q => by rw [h0 b q] at e; cases e) (F.keep b o e)
  new := F.new
  old := fun b p => let ⟨o, ho⟩ := F.old b p; ⟨o, k b o (fun q => hp b q p) ho⟩
  apart := F.apart
  offL := F.offL

/-- what a comprehension takes from: each turn binds the target -/
structure Feeds (w : World) (A : Around) (env : Env) (h₀ : Heap) (target : Expr) (it : Value) (n : Nat) (Up : Nat → (Str → Option Value) → Prop) (Z : Addr → Prop) (fp : Addr → Prop) (St : Nat → Heap → Prop) : Prop where
  sub : ∀ b, Z b → fp b
  live : ∀ i h, St i h → ∀ b, Z b → ∃ o, h.get? b = some o
  frame : ∀ i h h', St i h → (∀ b, fp b → ∀ o, h.get? b = some o → h'.get? b = some o) → St i h'
  item : ∀ i (s : Shared) (v : Str → Option Value) (Q : Unit → Shared → Prop) (E : Value → Shared → Prop), i < n → St i s.heap → FF env h₀ v s.heap →
    (∀ s' v', Sm s s' → FF env h₀ v' s'.heap → Up i v' → (∀ y, env.kindOf y ≠ some .local → v' y = v y) → St (i + 1) s'.heap → (∀ b o, b ≠ env.locals → ¬ Z b → s.heap.get? b = some o → s'.heap.get? b = some o) → Q () s') →
    wpAny (model P0 w) A (pyNext it) (fun r s₁ => match r with
      | none => False
      | some val => wpAny (model P0 w) A (letOwnedTupleGo target it val) (fun _ s₂ => wpAny (model P0 w) A (assign target env val) Q E s₂) E s₁) E s
  done : ∀ (s : Shared) (Q : Option Value → Shared → Prop) (E : Value → Shared → Prop), St n s.heap →
    (∀ s', Sm s s' → (∀ b o, ¬ Z b → s.heap.get? b = some o → s'.heap.get? b = some o) → Q none s') → wpAny (model P0 w) A (pyNext it) Q E s
  self : ∀ i (s : Shared) (Q : Value → Shared → Prop) (E : Value → Shared → Prop), St i s.heap → Q it s → wpAny (model P0 w) A (pyIter it) Q E s

abbrev Tests (w : World) (A : Around) (env : Env) (ifs : List Expr) (Q : Bool → Shared → Prop) (E : Value → Shared → Prop) (s : Shared) : Prop :=
  wpAny (model P0 w) A (forIn ifs true fun c r => if r = true then do let ok ← isTrue c env (eval c env); pure (ForInStep.yield ok) else pure (ForInStep.yield r)) Q E s
theorem Tests.nil {Q : Bool → Shared → Prop} (h : Q true s) : Tests w A env [] Q E s := wpAny_pure h
theorem Tests.one {c : Expr} {Q : Bool → Shared → Prop} (h : wpAny (model P0 w) A (isTrue c env (eval c env)) Q E s) : Tests w A env [c] Q E s := wpAny_tests_one h

theorem loopL_raw {R : Result → Shared → Prop} {elt target iter : Expr} {ifs : List Expr} {scope : Scope} {pos : Pos} {it acc : Value} (I : Nat → Shared → Prop)
    (turn : ∀ n s, I n s → wpAny (model P0 w) A (pyNext it) (fun r s₁ => match r with
      | none => R (.ok .next) s₁
      | some v => wpAny (model P0 w) A (letOwnedTupleGo target it v) (fun _ s₁' => wpAny (model P0 w) A (assign target env v) (fun _ s₂ =>
          Tests w A env ifs (fun ok s₃ =>
            if ok = true then wpAny (model P0 w) A (eval elt env) (fun x s₄ =>
              wpAny (model P0 w) A (call (.builtin "list.append") [acc, x]) (fun _ s₅ => ∃ m, m < n ∧ I m s₅) (notedBy (model P0 w) A env fun e s' => R (.error e) s') s₄) (notedBy (model P0 w) A env fun e s' => R (.error e) s') s₃
            else ∃ m, m < n ∧ I m s₃) (notedBy (model P0 w) A env fun e s' => R (.error e) s') s₂) (notedBy (model P0 w) A env fun e s' => R (.error e) s') s₁') (notedBy (model P0 w) A env fun e s' => R (.error e) s') s₁) (notedBy (model P0 w) A env fun e s' => R (.error e) s') s)
    (n : Nat) (h : I n s) : codeAny (model P0 w) A (.compLoop (.ListComp elt [⟨target, iter, ifs, 0⟩] scope pos) 0 it acc env) R s := by
  refine codeAny_loop rfl I (fun n s hI => ?_) n h
  show wpAny _ A ((compTurn (.ListComp elt [⟨target, iter, ifs, 0⟩] scope pos) 0 it acc env).onRaise (fun x => do noteFrame x env; theTreesLotGoes x)) _ _ s
  refine wpAny_noted ?_
  rw [compTurn_list]
  refine wpAny_bind (wpAny_standAt (wpAny_bind (wpAny_mono (turn n s hI) (fun r s₁ h₁ => ?_) fun _ _ h' => h')))
  cases r with
  | none => exact wpAny_pure h₁
  | some v =>
    refine wpAny_bind (wpAny_mono h₁ (fun _ s₁' h₁' => wpAny_bind (wpAny_mono h₁' (fun _ s₂ h₂ => wpAny_bind (wpAny_mono h₂ (fun ok s₃ h₃ => ?_) fun _ _ h' => h')) fun _ _ h' => h')) fun _ _ h' => h')
    cases ok with
    | false => exact wpAny_pure ⟨rfl, h₃⟩
    | true =>
      exact wpAny_bind (wpAny_bind (wpAny_mono h₃ (fun x s₄ h₄ => wpAny_bind (wpAny_mono h₄ (fun _ s₅ h₅ => wpAny_pure (wpAny_pure ⟨rfl, h₅⟩)) fun _ _ h' => h')) fun _ _ h' => h'))

theorem loopD_raw {R : Result → Shared → Prop} {kx vx target iter : Expr} {ifs : List Expr} {scope : Scope} {pos : Pos} {it : Value} {D : Addr} (I : Nat → Shared → Prop)
    (turn : ∀ n s, I n s → wpAny (model P0 w) A (pyNext it) (fun r s₁ => match r with
      | none => R (.ok .next) s₁
      | some v => wpAny (model P0 w) A (letOwnedTupleGo target it v) (fun _ s₁' => wpAny (model P0 w) A (assign target env v) (fun _ s₂ =>
          Tests w A env ifs (fun ok s₃ =>
            if ok = true then wpAny (model P0 w) A (eval kx env) (fun kv s₄ => wpAny (model P0 w) A (eval vx env) (fun vv s₅ =>
              wpAny (model P0 w) A (dictSet D kv vv) (fun _ s₆ => ∃ m, m < n ∧ I m s₆) (notedBy (model P0 w) A env fun e s' => R (.error e) s') s₅) (notedBy (model P0 w) A env fun e s' => R (.error e) s') s₄) (notedBy (model P0 w) A env fun e s' => R (.error e) s') s₃
            else ∃ m, m < n ∧ I m s₃) (notedBy (model P0 w) A env fun e s' => R (.error e) s') s₂) (notedBy (model P0 w) A env fun e s' => R (.error e) s') s₁') (notedBy (model P0 w) A env fun e s' => R (.error e) s') s₁) (notedBy (model P0 w) A env fun e s' => R (.error e) s') s)
    (n : Nat) (h : I n s) : codeAny (model P0 w) A (.compLoop (.DictComp kx vx [⟨target, iter, ifs, 0⟩] scope pos) 0 it (.ref D) env) R s := by
  refine codeAny_loop rfl I (fun n s hI => ?_) n h
  show wpAny _ A ((compTurn (.DictComp kx vx [⟨target, iter, ifs, 0⟩] scope pos) 0 it (.ref D) env).onRaise (fun x => do noteFrame x env; theTreesLotGoes x)) _ _ s
  refine wpAny_noted ?_
  rw [compTurn_dict]
  refine wpAny_bind (wpAny_standAt (wpAny_bind (wpAny_mono (turn n s hI) (fun r s₁ h₁ => ?_) fun _ _ h' => h')))
  cases r with
  | none => exact wpAny_pure h₁
  | some v =>
    refine wpAny_bind (wpAny_mono h₁ (fun _ s₁' h₁' => wpAny_bind (wpAny_mono h₁' (fun _ s₂ h₂ => wpAny_bind (wpAny_mono h₂ (fun ok s₃ h₃ => ?_) fun _ _ h' => h')) fun _ _ h' => h')) fun _ _ h' => h')
    cases ok with
    | false => exact wpAny_pure ⟨rfl, h₃⟩
    | true =>
      exact wpAny_bind (wpAny_bind (wpAny_mono h₃ (fun kv s₄ h₄ => wpAny_bind (wpAny_holding (wpAny_mono h₄ (fun vv s₅ h₅ => wpAny_bind (wpAny_standAt (wpAny_holding (wpAny_mono h₅ (fun _ s₆ h₆ => wpAny_pure ⟨rfl, h₆⟩) fun _ _ h' => h')))) fun _ _ h' => h'))) fun _ _ h' => h'))

/-- the loop of a list comprehension -/
theorem LoopL {R : Result → Shared → Prop} {elt target iter : Expr} {ifs : List Expr} {scope : Scope} {pos : Pos} {it : Value} {D : Addr} {n : Nat} {Up : Nat → (Str → Option Value) → Prop} {Z fp : Addr → Prop} {St : Nat → Heap → Prop}
    (Fd : Feeds w A env h₀ target it n Up Z fp St) (hsz : n ≤ sizeLine) (hZp : ∀ b, Z b → ¬ Priv env b) (hZ0 : ∀ b, Z b → h₀.get? b = none) (hDf : ¬ fp D) (hDp : ¬ Priv env D) (hD0 : h₀.get? D = none)
    (J : Nat → List Value → Heap → Prop)
    (hJ : ∀ i l h h₁, J i l h → (∀ b o, b ≠ env.locals → ¬ Z b → b ≠ D → h.get? b = some o → h₁.get? b = some o) → J i l h₁)
    (F : FF env h₀ v s.heap) (hst : St 0 s.heap) (hacc : s.heap.PlainList D #[]) (h0 : J 0 [] s.heap)
    (turn : ∀ i l s' v', i < n → Sm s s' → (∀ b o, b ≠ env.locals → ¬ Z b → b ≠ D → s.heap.get? b = some o → s'.heap.get? b = some o) → FF env h₀ v' s'.heap → Up i v' → (∀ y, env.kindOf y ≠ some .local → v' y = v y) → s'.heap.PlainList D l.toArray → St (i + 1) s'.heap → J i l s'.heap →
      ∀ E', Tests w A env ifs (fun ok s₁ => if ok = true then wpAny (model P0 w) A (eval elt env) (fun y s₂ => Sm s' s₂ ∧ Ext s'.heap s₂.heap ∧ J (i + 1) (l ++ [y]) s₂.heap) E' s₁ else Sm s' s₁ ∧ Ext s'.heap s₁.heap ∧ J (i + 1) l s₁.heap) E' s')
    (done : ∀ s' v' l, Sm s s' → FF env h₀ v' s'.heap → s'.heap.PlainList D l.toArray → J n l s'.heap → (∀ b o, b ≠ env.locals → ¬ Z b → b ≠ D → s.heap.get? b = some o → s'.heap.get? b = some o) → R (.ok .next) s') :
    codeAny (model P0 w) A (.compLoop (.ListComp elt [⟨target, iter, ifs, 0⟩] scope pos) 0 it (.ref D) env) R s := by
  have hDC : D ≠ env.locals := fun e => hDp (.inl e)
  have hZD : ∀ b, Z b → b ≠ D := fun b hb e => hDf (e ▸ Fd.sub b hb)
  have hZC : ∀ b, Z b → b ≠ env.locals := fun b hb e => hZp b hb (.inl e)
  refine loopL_raw (fun k s' => ∃ i l v', i ≤ n ∧ k = n + 1 - i ∧ l.length ≤ i ∧ Sm s s' ∧ St i s'.heap ∧ s'.heap.PlainList D l.toArray ∧ FF env h₀ v' s'.heap ∧ (∀ y, env.kindOf y ≠ some .local → v' y = v y) ∧ J i l s'.heap ∧
    (∀ b o, b ≠ env.locals → ¬ Z b → b ≠ D → s.heap.get? b = some o → s'.heap.get? b = some o)) ?_ (n + 1) ⟨0, [], v, Nat.zero_le _, rfl, Nat.le_refl _, ⟨rfl, rfl⟩, hst, hacc, F, fun _ _ => rfl, h0, fun _ _ _ _ _ e => e⟩
  rintro k s' ⟨i, l, v', hi, rfl, hl, M, hst', hacc', F', hv', hj, hk⟩
  by_cases hlt : i < n
  · refine wpAny_mono (Fd.item i s' v' ?QQ _ hlt hst' F' ?cont) (fun r s₁ h₁ => ?mm) fun _ _ e => e
    case mm => cases r with
      | none => exact h₁.elim
      | some val => exact h₁
    intro s₂ v₂ M₂ F₂ hup hv₂ hst₂ hk₂
    have hacc₂ : s₂.heap.PlainList D l.toArray := hacc'.at fun o e => hk₂ D o hDC (fun q => hDf (Fd.sub D q)) e
    have hj₂ : J i l s₂.heap := hJ _ _ _ _ hj fun b o h1 h2 _ e => hk₂ b o h1 h2 e
    have hk₂' : ∀ b o, b ≠ env.locals → ¬ Z b → b ≠ D → s.heap.get? b = some o → s₂.heap.get? b = some o := fun b o h1 h2 h3 e => hk₂ b o h1 h2 (hk b o h1 h2 h3 e)
    have hv₂' : ∀ y, env.kindOf y ≠ some .local → v₂ y = v y := fun y hy => (hv₂ y hy).trans (hv' y hy)
    refine wpAny_mono (turn i l s₂ v₂ hlt (M.trans' M₂) hk₂' F₂ hup hv₂' hacc₂ hst₂ hj₂ _) (fun ok s₃ h₃ => ?_) fun _ _ e => e
    cases ok with
    | false =>
      simp only [Bool.false_eq_true, if_false] at h₃ ⊢
      obtain ⟨M₃, k₃, j₃⟩ := h₃
      exact ⟨n + 1 - (i + 1), by omega, i + 1, l, v₂, hlt, rfl, Nat.le_succ_of_le hl, (M.trans' M₂).trans' M₃, Fd.frame _ _ _ hst₂ (fun b _ o e => k₃ b o e), hacc₂.at fun o e => k₃ _ o e, F₂.ext k₃, hv₂', j₃, fun b o h1 h2 h3 e => k₃ b o (hk₂' b o h1 h2 h3 e)⟩
    | true =>
      simp only [if_true] at h₃ ⊢
      refine wpAny_mono h₃ (fun y s₄ h₄ => ?_) fun _ _ e => e
      obtain ⟨M₄, k₄, j₄⟩ := h₄
      refine wpAny_list_append_plain (hsz := by rw [List.size_toArray]; omega) (hacc₂.at fun o e => k₄ _ o e) fun h₅ hl₅ hs₅ => ?_
      refine ⟨n + 1 - (i + 1), by omega, i + 1, l ++ [y], v₂, hlt, rfl, by rw [List.length_append, List.length_singleton]; omega, (M.trans' M₂).trans' ⟨M₄.gens, M₄.os⟩, ?_, by simpa using hl₅, ?_, hv₂', ?_, ?_⟩
      · exact Fd.frame _ _ _ hst₂ fun b hb o e => hs₅.extBut b o (fun q => hDf (q ▸ hb)) (k₄ b o e)
      · exact (F₂.ext k₄).mut hDp hD0 fun b o hb e => hs₅.extBut b o hb e
      · exact hJ _ _ _ _ j₄ fun b o _ _ h3 e => hs₅.extBut b o h3 e
      · exact fun b o h1 h2 h3 e => hs₅.extBut b o h3 (k₄ b o (hk₂' b o h1 h2 h3 e))
  · have hin : i = n := by omega
    subst hin
    refine Fd.done s' _ _ hst' fun s₁ M₁ k₁ => ?_
    have F₁ : FF env h₀ v' s₁.heap := F'.muts (X := Z) hZp hZ0 k₁
    exact done s₁ v' l (M.trans' M₁) F₁ (hacc'.at fun o e => k₁ D o (fun q => hDf (Fd.sub D q)) e) (hJ _ _ _ _ hj fun b o _ h2 _ e => k₁ b o h2 e) fun b o h1 h2 h3 e => k₁ b o h2 (hk b o h1 h2 h3 e)
end
end Zd

namespace Zd
open PySem PySem.W PyProof.Rows PySem.Calls

section
variable {w : World} {A : Around} {E : Value → Shared → Prop} {s : Shared} {env : Env} {h₀ : Heap} {v : Str → Option Value}

/-- the loop of a dict comprehension -/
theorem LoopD {R : Result → Shared → Prop} {kx vx target iter : Expr} {ifs : List Expr} {scope : Scope} {pos : Pos} {it : Value} {D : Addr} {n : Nat} {Up : Nat → (Str → Option Value) → Prop} {Z fp : Addr → Prop} {St : Nat → Heap → Prop}
    (Fd : Feeds w A env h₀ target it n Up Z fp St) (hsz : n ≤ sizeLine) (hZp : ∀ b, Z b → ¬ Priv env b) (hZ0 : ∀ b, Z b → h₀.get? b = none) (hDf : ¬ fp D) (hDp : ¬ Priv env D) (hD0 : h₀.get? D = none)
    (J : Nat → List (Str × Value) → Heap → Prop)
    (hJ : ∀ i l h h₁, J i l h → (∀ b o, b ≠ env.locals → ¬ Z b → b ≠ D → h.get? b = some o → h₁.get? b = some o) → J i l h₁)
    (F : FF env h₀ v s.heap) (hst : St 0 s.heap) (hacc : s.heap.DictOf (strKind P0 w) D []) (h0 : J 0 [] s.heap)
    (turn : ∀ i l s' v', i < n → Sm s s' → (∀ b o, b ≠ env.locals → ¬ Z b → b ≠ D → s.heap.get? b = some o → s'.heap.get? b = some o) → FF env h₀ v' s'.heap → Up i v' → (∀ y, env.kindOf y ≠ some .local → v' y = v y) → s'.heap.DictOf (strKind P0 w) D l → St (i + 1) s'.heap → J i l s'.heap →
      ∀ E', Tests w A env ifs (fun ok s₁ => if ok = true then wpAny (model P0 w) A (eval kx env) (fun kv s₂ => ∃ k t, kv = .str k t ∧ wpAny (model P0 w) A (eval vx env) (fun y s₃ => Sm s' s₃ ∧ Ext s'.heap s₃.heap ∧ J (i + 1) (stored l k y) s₃.heap) E' s₂) E' s₁ else Sm s' s₁ ∧ Ext s'.heap s₁.heap ∧ J (i + 1) l s₁.heap) E' s')
    (done : ∀ s' v' l, Sm s s' → FF env h₀ v' s'.heap → s'.heap.DictOf (strKind P0 w) D l → J n l s'.heap → (∀ b o, b ≠ env.locals → ¬ Z b → b ≠ D → s.heap.get? b = some o → s'.heap.get? b = some o) → R (.ok .next) s') :
    codeAny (model P0 w) A (.compLoop (.DictComp kx vx [⟨target, iter, ifs, 0⟩] scope pos) 0 it (.ref D) env) R s := by
  have hDC : D ≠ env.locals := fun e => hDp (.inl e)
  refine loopD_raw (fun k s' => ∃ i l v', i ≤ n ∧ k = n + 1 - i ∧ l.length ≤ i ∧ Sm s s' ∧ St i s'.heap ∧ s'.heap.DictOf (strKind P0 w) D l ∧ FF env h₀ v' s'.heap ∧ (∀ y, env.kindOf y ≠ some .local → v' y = v y) ∧ J i l s'.heap ∧
    (∀ b o, b ≠ env.locals → ¬ Z b → b ≠ D → s.heap.get? b = some o → s'.heap.get? b = some o)) ?_ (n + 1) ⟨0, [], v, Nat.zero_le _, rfl, Nat.le_refl _, ⟨rfl, rfl⟩, hst, hacc, F, fun _ _ => rfl, h0, fun _ _ _ _ _ e => e⟩
  rintro k s' ⟨i, l, v', hi, rfl, hl, M, hst', hacc', F', hv', hj, hk⟩
  by_cases hlt : i < n
  · refine wpAny_mono (Fd.item i s' v' ?QQ _ hlt hst' F' ?cont) (fun r s₁ h₁ => ?mm) fun _ _ e => e
    case mm => cases r with
      | none => exact h₁.elim
      | some val => exact h₁
    intro s₂ v₂ M₂ F₂ hup hv₂ hst₂ hk₂
    have hacc₂ : s₂.heap.DictOf (strKind P0 w) D l := hacc'.at fun o e => hk₂ D o hDC (fun q => hDf (Fd.sub D q)) e
    have hj₂ : J i l s₂.heap := hJ _ _ _ _ hj fun b o h1 h2 _ e => hk₂ b o h1 h2 e
    have hk₂' : ∀ b o, b ≠ env.locals → ¬ Z b → b ≠ D → s.heap.get? b = some o → s₂.heap.get? b = some o := fun b o h1 h2 h3 e => hk₂ b o h1 h2 (hk b o h1 h2 h3 e)
    have hv₂' : ∀ y, env.kindOf y ≠ some .local → v₂ y = v y := fun y hy => (hv₂ y hy).trans (hv' y hy)
    refine wpAny_mono (turn i l s₂ v₂ hlt (M.trans' M₂) hk₂' F₂ hup hv₂' hacc₂ hst₂ hj₂ _) (fun ok s₃ h₃ => ?_) fun _ _ e => e
    cases ok with
    | false =>
      simp only [Bool.false_eq_true, if_false] at h₃ ⊢
      obtain ⟨M₃, k₃, j₃⟩ := h₃
      exact ⟨n + 1 - (i + 1), by omega, i + 1, l, v₂, hlt, rfl, Nat.le_succ_of_le hl, (M.trans' M₂).trans' M₃, Fd.frame _ _ _ hst₂ (fun b _ o e => k₃ b o e), hacc₂.at fun o e => k₃ _ o e, F₂.ext k₃, hv₂', j₃, fun b o h1 h2 h3 e => k₃ b o (hk₂' b o h1 h2 h3 e)⟩
    | true =>
      simp only [if_true] at h₃ ⊢
      refine wpAny_mono h₃ (fun kv s₄ h₄ => ?_) fun _ _ e => e
      obtain ⟨kk, kt, rfl, h₄⟩ := h₄
      refine wpAny_mono h₄ (fun y s₅ h₅ => ?_) fun _ _ e => e
      obtain ⟨M₅, k₅, j₅⟩ := h₅
      refine wpAny_dictSet_pairs (hsz := by omega) (strKind_is P0 w kk kt) (hacc₂.at fun o e => k₅ _ o e) fun h₆ hl₆ hs₆ => ?_
      refine ⟨n + 1 - (i + 1), by omega, i + 1, stored l kk y, v₂, hlt, rfl, by have := stored_length_le l kk y; omega, (M.trans' M₂).trans' ⟨M₅.gens, M₅.os⟩, ?_, hl₆, ?_, hv₂', ?_, ?_⟩
      · exact Fd.frame _ _ _ hst₂ fun b hb o e => hs₆.extBut b o (fun q => hDf (q ▸ hb)) (k₅ b o e)
      · exact (F₂.ext k₅).mut hDp hD0 fun b o hb e => hs₆.extBut b o hb e
      · exact hJ _ _ _ _ j₅ fun b o _ _ h3 e => hs₆.extBut b o h3 e
      · exact fun b o h1 h2 h3 e => hs₆.extBut b o h3 (k₅ b o (hk₂' b o h1 h2 h3 e))
  · have hin : i = n := by omega
    subst hin
    refine Fd.done s' _ _ hst' fun s₁ M₁ k₁ => ?_
    have F₁ : FF env h₀ v' s₁.heap := F'.muts (X := Z) hZp hZ0 k₁
    exact done s₁ v' l (M.trans' M₁) F₁ (hacc'.at fun o e => k₁ D o (fun q => hDf (Fd.sub D q)) e) (hJ _ _ _ _ hj fun b o _ h2 _ e => k₁ b o h2 e) fun b o h1 h2 h3 e => k₁ b o h2 (hk b o h1 h2 h3 e)

def capt (env : Env) (ns : List Str) : List (Str × Addr) := ns.filterMap fun n => (env.cells.lookup n).map fun c => (n, c)
theorem mem_capt {env : Env} {ns : List Str} {n : Str} {c : Addr} (h : (n, c) ∈ capt env ns) : n ∈ ns ∧ env.cells.lookup n = some c := by
  obtain ⟨m, hm, e⟩ := List.mem_filterMap.mp h
  cases hl : env.cells.lookup m with
  | none => rw [hl] at e; cases e
  | some d => rw [hl] at e; cases e; exact ⟨hm, hl⟩
theorem relabel_lookup {env : Env} {k : NameKind} : ∀ {names : List (Str × NameKind)} {x : Str},
    (names.map fun (n, k) => if (k == NameKind.free && env.scope.kind == .function && env.kindOf n == some .cell) then (n, NameKind.cell) else (n, k)).lookup x = some k →
    names.lookup x = some k ∨ (k = .cell ∧ env.kindOf x = some .cell)
  | [], x, h => by simp at h
  | (n, k') :: r, x, h => by
    have ih := @relabel_lookup env k r x
    replace h : List.lookup x ((if (k' == NameKind.free && env.scope.kind == .function && env.kindOf n == some .cell) = true then (n, NameKind.cell) else (n, k')) :: _) = some k := h
    by_cases hc : (k' == NameKind.free && env.scope.kind == .function && env.kindOf n == some .cell) = true
    · rw [if_pos hc] at h
      rw [List.lookup_cons] at h ⊢
      cases hx : x == n with
      | true =>
        rw [hx] at h; cases h
        have : x = n := by simpa using hx
        right; subst this
        simp only [Bool.and_eq_true] at hc
        exact ⟨rfl, by simpa using hc.2⟩
      | false => rw [hx] at h; simpa using ih h
    · rw [if_neg hc] at h
      rw [List.lookup_cons] at h ⊢
      cases hx : x == n with
      | true => rw [hx] at h; left; simpa using h
      | false => rw [hx] at h; simpa using ih h
theorem pairwise_capt {env : Env} (ap : env.cells.Pairwise fun x y => x.2 ≠ y.2) : ∀ {ns : List Str}, ns.Nodup → (capt env ns).Pairwise fun x y => x.2 ≠ y.2
  | [], _ => List.Pairwise.nil
  | n :: r, hn => by
    have hn := List.nodup_cons.mp hn
    have ih := pairwise_capt ap hn.2
    unfold capt
    rw [List.filterMap_cons]
    cases hl : env.cells.lookup n with
    | none => exact ih
    | some c =>
      refine List.Pairwise.cons ?_ ih
      rintro ⟨m, d⟩ hm e
      obtain ⟨h1, h2⟩ := mem_capt hm
      have : c = d := e
      subst this
      have := name_of_addr ap (mem_of_lookup hl) (mem_of_lookup h2)
      exact hn.1 (this ▸ h1)

/-- the frame of a comprehension -/
theorem FF.comp {h h' : Heap} {C : Addr} {scope : Scope} {ns : List Str} (F : FF env h₀ v h) (k : Ext h h') (hC : h.get? C = none) (hn : h'.Ns C fun _ => none) (hkind : scope.kind = .function) (hcell : ∀ y ∈ scope.names, y.2 ≠ .cell) (hnd : ns.Nodup) :
    FF (compEnvC scope (capt env ns) C env) h₀ (fun y => if scope.names.lookup y = some .local then none else v y) h' where
  fn := hkind
  ns := ⟨_, hn, fun n hk => by
    rcases relabel_lookup (show ((relabel scope env).names.lookup n) = some .local from hk) with q | ⟨q, _⟩
    · simp [q]
    · cases q⟩
  cell := fun n c hc hk => by
    obtain ⟨_, hl⟩ := mem_capt (mem_of_lookup hc)
    rcases relabel_lookup (show ((relabel scope env).names.lookup n) = some .cell from hk) with q | ⟨_, q⟩
    · exact absurd rfl (hcell _ (mem_of_lookup q))
    · have hnl : scope.names.lookup n ≠ some .local := fun e => by
        have := lookup_relabel_local (env := env) e
        have hk' : ((relabel scope env).names.lookup n) = some .cell := hk
        unfold relabel at hk'
        rw [this] at hk'; cases hk'
      rw [if_neg hnl]
      exact (F.cell n c hl q).keeps k
  keep := F.keep.trans' k
  new := fun b p => by
    rcases p with q | ⟨n, hm⟩
    · rw [show b = C from q]
      cases e : h₀.get? C with
      | none => rfl
      | some o => rw [F.keep _ _ e] at hC; cases hC
    · exact F.new b (.inr ⟨n, mem_of_lookup (mem_capt hm).2⟩)
  old := fun b p => by
    rcases p with rfl | ⟨n, hm⟩
    · obtain ⟨o, _, _, ho, _⟩ := hn; exact ⟨o, ho⟩
    · obtain ⟨o, ho⟩ := F.old b (.inr ⟨n, mem_of_lookup (mem_capt hm).2⟩)
      exact ⟨o, k _ _ ho⟩
  apart := pairwise_capt F.apart hnd
  offL := fun n c hm e => by
    obtain ⟨o, ho⟩ := F.old c (.inr ⟨n, mem_of_lookup (mem_capt hm).2⟩)
    have e : c = C := e
    rw [e, hC] at ho; cases ho

theorem privC {scope : Scope} {ns : List Str} {C b : Addr} (p : Priv (compEnvC scope (capt env ns) C env) b) : b = C ∨ Priv env b := by
  rcases p with rfl | ⟨n, hm⟩
  · exact .inl rfl
  · exact .inr (.inr ⟨n, mem_of_lookup (mem_capt hm).2⟩)

/-- d lies above all of h -/
def Above (h : Heap) (d : Addr) : Prop := ∀ b o, h.get? b = some o → b < d
theorem Above.none {h : Heap} {d : Addr} (a : Above h d) : h.get? d = none := by
  cases e : h.get? d with
  | none => rfl
  | some o => exact absurd (a d o e) (Nat.lt_irrefl _)
theorem Above.size (h : Heap) : Above h h.objs.size := fun _ _ e => Heap.lt_size e
theorem Above.ext {h h' : Heap} {d : Addr} (a : Above h' d) (k : Ext h h') : Above h d := fun b o e => a b o (k b o e)
theorem Base.above {h : Heap} {d : Addr} (B : Base w h) (a : Above h d) : (d == sysModules) = false := by
  have h1 : 276 < d := a 276 _ (B.k 276 _ rfl)
  refine beq_eq_false_iff_ne.mpr fun q => ?_
  have h2 : sysModules = 1 := rfl
  rw [q, h2] at h1
  exact absurd h1 (by decide)

/-- a comprehension's source -/
def SrcF (w : World) (A : Around) (env : Env) (h₀ : Heap) (scope : Scope) (cl : List (Str × Addr)) (s s₂ : Shared) (target : Expr) (it : Value) (n : Nat) (Up : Nat → (Str → Option Value) → Prop) : Prop :=
  ∃ Z fp St, St 0 s₂.heap ∧ (∀ b, Z b → s.heap.get? b = none) ∧ (∀ b, Z b → ∃ o, s₂.heap.get? b = some o) ∧ (∀ b, fp b → ∃ o, s₂.heap.get? b = some o) ∧ ∀ C, s₂.heap.get? C = none → Feeds w A (compEnvC scope cl C env) h₀ target it n Up Z fp St


theorem CompL_core {RR : Value → Addr → Result → Shared → Prop} {elt target iter : Expr} {ifs : List Expr} {scope : Scope} {ns : List Str} {pos : Pos} {n : Nat} {Up : Nat → (Str → Option Value) → Prop} {s₂ : Shared} {it : Value}
    (J : (Addr → Prop) → Nat → List Value → Heap → Prop)
    (F : FF env h₀ v s.heap) (hsz : n ≤ sizeLine) (M₂ : Sm s s₂) (k₂ : Ext s.heap s₂.heap) (hsrc : SrcF w A env h₀ scope (capt env ns) s s₂ target it n Up)
    (hJ0 : ∀ bad h, (∀ b, bad b → s.heap.get? b = none) → Ext s.heap h → J bad 0 [] h)
    (hJ : ∀ bad i l h h₁, J bad i l h → (∀ b o, ¬ bad b → ¬ Priv env b → h.get? b = some o → h₁.get? b = some o) → J bad i l h₁)
    (turn : ∀ bad C i l s' v', i < n → Sm s s' → Ext s.heap s'.heap → FF (compEnvC scope (capt env ns) C env) h₀ v' s'.heap → Up i v' → (∀ y, scope.names.lookup y ≠ some .local → v' y = v y) → (∀ b, bad b → ∃ o, s'.heap.get? b = some o) → J bad i l s'.heap →
      ∀ E', Tests w A (compEnvC scope (capt env ns) C env) ifs (fun ok s₁ => if ok = true then wpAny (model P0 w) A (eval elt (compEnvC scope (capt env ns) C env)) (fun y s₂ => Sm s' s₂ ∧ Ext s'.heap s₂.heap ∧ J bad (i + 1) (l ++ [y]) s₂.heap) E' s₁
        else Sm s' s₁ ∧ Ext s'.heap s₁.heap ∧ J bad (i + 1) l s₁.heap) E' s')
    (done : ∀ bad C D l s' m, Sm s s' → Ext s.heap s'.heap → Above s.heap D → s.heap.get? C = none → D ≠ C → bad C → s'.heap.Ns C m → FF env h₀ v s'.heap → s'.heap.PlainList D l.toArray → J bad n l s'.heap → RR (.ref D) C (.ok .next) s')
    (hkind : scope.kind = .function) (hcell : ∀ y ∈ scope.names, y.2 ≠ .cell) (hnd : ns.Nodup) :
    wpAny (model P0 w) A (newList []) (fun acc s₃ => wpAny (model P0 w) A (newFunctionEnv scope env.globals (capt env ns) [] env.qual none .none (some env)) (fun cenv s₄ =>
      codeAny (model P0 w) A (.compStart (.ListComp elt [⟨target, iter, ifs, 0⟩] scope pos) 0 it acc { cenv with scope := relabel scope env }) (RR acc cenv.locals) s₄) E s₃) E s₂ := by
  obtain ⟨Z, fp, St, hst, hZ, hZ2, hfp, hFd⟩ := hsrc
  refine wpAny_newObj_type (wpAny_newFunctionEnv hcell (by intro y hy; simp at hy) (fun h₁ hns₁ hsb₁ => ?_) hkind)
  dsimp only at hns₁ hsb₁ ⊢
  have hlist : (s₂.heap.push { cls := .type "list", dict := none, data := .seq ([] : List Value).toArray }).PlainList s₂.heap.objs.size #[] := ⟨_, Heap.get?_push_size _ rfl⟩
  have hH2e : Ext s₂.heap (s₂.heap.push { cls := .type "list", dict := none, data := .seq ([] : List Value).toArray }) := Ext.push' _ _
  have hC : (s₂.heap.push { cls := .type "list", dict := none, data := .seq ([] : List Value).toArray }).objs.size = s₂.heap.objs.size + 1 := Heap.size_push ..
  generalize s₂.heap.push { cls := .type "list", dict := none, data := .seq ([] : List Value).toArray } = H2 at hns₁ hsb₁ hlist hH2e hC ⊢
  have fresh : ∀ a, s₂.heap.objs.size ≤ a → s₂.heap.get? a = none := fun a ha => by
    cases e : s₂.heap.get? a with
    | none => rfl
    | some o' => exact absurd (Heap.lt_size e) (Nat.not_lt.mpr ha)
  have hC2 : s₂.heap.get? H2.objs.size = none := fresh _ (by rw [hC]; exact Nat.le_succ _)
  have hD2 : s₂.heap.get? s₂.heap.objs.size = none := fresh _ (Nat.le_refl _)
  have hDab : Above s.heap s₂.heap.objs.size := (Above.size _).ext k₂
  have hDC : s₂.heap.objs.size ≠ H2.objs.size := by rw [hC]; exact Nat.ne_of_lt (Nat.lt_succ_self _)
  generalize H2.objs.size = C at hns₁ hsb₁ hC hC2 hDC ⊢
  generalize s₂.heap.objs.size = D at hlist hC hD2 hDC hDab ⊢
  have nS : ∀ b, s₂.heap.get? b = none → s.heap.get? b = none := fun b hb => by
    cases e : s.heap.get? b with
    | none => rfl
    | some o => rw [k₂ _ _ e] at hb; cases hb
  have n0 : ∀ b, s.heap.get? b = none → h₀.get? b = none := fun b hb => by
    cases e : h₀.get? b with
    | none => rfl
    | some o => rw [F.keep _ _ e] at hb; cases hb
  have nP : ∀ b, s.heap.get? b = none → ¬ Priv env b := fun b hb p => by
    obtain ⟨o, ho⟩ := F.old b p
    rw [hb] at ho; cases ho
  have kC : Ext s₂.heap h₁ := fun b o e => hsb₁.extBut b o (fun q => by rw [q, hC2] at e; cases e) (Heap.get?_push_of_some _ (hH2e b o e))
  have hacc₁ : h₁.PlainList D #[] := hlist.at fun o e => hsb₁.extBut _ _ hDC (Heap.get?_push_of_some _ e)
  have F₁ : FF (compEnvC scope (capt env ns) C env) h₀ _ h₁ := (F.ext k₂).comp kC hC2 (by simpa using hns₁) hkind hcell hnd
  have Fd := hFd C hC2
  have hst₁ : St 0 h₁ := Fd.frame _ _ _ hst fun b _ o e => kC b o e
  have hZp : ∀ b, Z b → ¬ Priv (compEnvC scope (capt env ns) C env) b := fun b hb p => by
    rcases privC p with q | q
    · obtain ⟨o, ho⟩ := hZ2 b hb
      rw [q, hC2] at ho; cases ho
    · exact nP b (hZ b hb) q
  have hDp : ¬ Priv (compEnvC scope (capt env ns) C env) D := fun p => by
    rcases privC p with q | q
    · exact hDC q
    · exact nP D (nS D hD2) q
  have hDf : ¬ fp D := fun q => by obtain ⟨o, ho⟩ := hfp D q; rw [hD2] at ho; cases ho
  have hbad : ∀ b, (b = C ∨ Z b ∨ b = D) → s.heap.get? b = none := fun b hb => by
    rcases hb with rfl | hb | rfl
    · exact nS _ hC2
    · exact hZ b hb
    · exact nS _ hD2
  have loop : ∀ s₃ : Shared, s₃.heap = h₁ → Sm s₂ s₃ →
      codeAny (model P0 w) A (.compLoop (.ListComp elt [⟨target, iter, ifs, 0⟩] scope pos) 0 it (.ref D) (compEnvC scope (capt env ns) C env)) (RR (.ref D) C) s₃ := by
    intro s₃ e₃ M₃
    subst e₃
    refine LoopL (s := s₃) Fd hsz hZp (fun b hb => n0 b (hZ b hb)) hDf hDp (n0 D (nS D hD2)) (J (fun b => b = C ∨ Z b ∨ b = D))
      (fun i l h h₁ hj k => hJ _ i l h h₁ hj fun b o hb _ e => k b o (fun q => hb (.inl q)) (fun q => hb (.inr (.inl q))) (fun q => hb (.inr (.inr q))) e) F₁ hst₁ hacc₁ (hJ0 _ _ hbad (k₂.trans' kC)) ?_ ?_
    · intro i l s' v' hi M' k' F' hup hv' hacc' hst' hj E'
      have kS : Ext s.heap s'.heap := fun b o e => k' b o (fun q => by have := nS _ hC2; rw [show b = C from q, this] at e; cases e) (fun q => by rw [hZ b q] at e; cases e) (fun q => by rw [q, nS D hD2] at e; cases e) (kC b o (k₂ b o e))
      refine turn _ C i l s' v' hi ((M₂.trans' M₃).trans' M') kS F' hup (fun y hy => ?_) (fun b hb => ?_) hj E'
      · rw [hv' y (fun q => by
          rcases relabel_lookup (show ((relabel scope env).names.lookup y) = some .local from q) with q | ⟨q, _⟩
          · exact hy q
          · cases q), if_neg hy]
      · rcases hb with rfl | hb | rfl
        · exact F'.old b (.inl rfl)
        · exact Fd.live _ _ hst' b hb
        · obtain ⟨m, hm⟩ := hacc'; exact ⟨_, hm⟩
    · intro s' v' l M' F' hacc' hj k'
      have kS : Ext s.heap s'.heap := fun b o e => k' b o (fun q => by have := nS _ hC2; rw [show b = C from q, this] at e; cases e) (fun q => by rw [hZ b q] at e; cases e) (fun q => by rw [q, nS D hD2] at e; cases e) (kC b o (k₂ b o e))
      obtain ⟨m, hm, _⟩ := F'.ns
      exact done (fun b => b = C ∨ Z b ∨ b = D) C D l s' m ((M₂.trans' M₃).trans' M') kS hDab (nS C hC2) hDC (.inl rfl) hm (F.ext kS) hacc' hj
  exact codeAny_compStart_list (loop _ rfl ⟨rfl, rfl⟩) (Fd.self 0 _ _ _ hst₁ (loop _ rfl ⟨rfl, rfl⟩))

theorem CompD_core {RR : Value → Addr → Result → Shared → Prop} {kx vx target iter : Expr} {ifs : List Expr} {scope : Scope} {ns : List Str} {pos : Pos} {n : Nat} {Up : Nat → (Str → Option Value) → Prop} {s₂ : Shared} {it : Value}
    (J : (Addr → Prop) → Nat → List (Str × Value) → Heap → Prop)
    (F : FF env h₀ v s.heap) (hsz : n ≤ sizeLine) (M₂ : Sm s s₂) (k₂ : Ext s.heap s₂.heap) (hsrc : SrcF w A env h₀ scope (capt env ns) s s₂ target it n Up)
    (hJ0 : ∀ bad h, (∀ b, bad b → s.heap.get? b = none) → Ext s.heap h → J bad 0 [] h)
    (hJ : ∀ bad i l h h₁, J bad i l h → (∀ b o, ¬ bad b → ¬ Priv env b → h.get? b = some o → h₁.get? b = some o) → J bad i l h₁)
    (turn : ∀ bad C i l s' v', i < n → Sm s s' → Ext s.heap s'.heap → FF (compEnvC scope (capt env ns) C env) h₀ v' s'.heap → Up i v' → (∀ y, scope.names.lookup y ≠ some .local → v' y = v y) → (∀ b, bad b → ∃ o, s'.heap.get? b = some o) → J bad i l s'.heap →
      ∀ E', Tests w A (compEnvC scope (capt env ns) C env) ifs (fun ok s₁ => if ok = true then wpAny (model P0 w) A (eval kx (compEnvC scope (capt env ns) C env)) (fun kv s₂ => ∃ k t, kv = .str k t ∧ wpAny (model P0 w) A (eval vx (compEnvC scope (capt env ns) C env)) (fun y s₃ => Sm s' s₃ ∧ Ext s'.heap s₃.heap ∧ J bad (i + 1) (stored l k y) s₃.heap) E' s₂) E' s₁
        else Sm s' s₁ ∧ Ext s'.heap s₁.heap ∧ J bad (i + 1) l s₁.heap) E' s')
    (done : ∀ bad C D l s' m, Sm s s' → Ext s.heap s'.heap → Above s.heap D → s.heap.get? C = none → D ≠ C → bad C → s'.heap.Ns C m → FF env h₀ v s'.heap → s'.heap.DictOf (strKind P0 w) D l → J bad n l s'.heap → RR (.ref D) C (.ok .next) s')
    (hkind : scope.kind = .function) (hcell : ∀ y ∈ scope.names, y.2 ≠ .cell) (hnd : ns.Nodup) :
    wpAny (model P0 w) A (newDict) (fun acc s₃ => wpAny (model P0 w) A (newFunctionEnv scope env.globals (capt env ns) [] env.qual none .none (some env)) (fun cenv s₄ =>
      codeAny (model P0 w) A (.compStart (.DictComp kx vx [⟨target, iter, ifs, 0⟩] scope pos) 0 it acc { cenv with scope := relabel scope env }) (RR acc cenv.locals) s₄) E s₃) E s₂ := by
  obtain ⟨Z, fp, St, hst, hZ, hZ2, hfp, hFd⟩ := hsrc
  refine wpAny_newObj_type (wpAny_newFunctionEnv hcell (by intro y hy; simp at hy) (fun h₁ hns₁ hsb₁ => ?_) hkind)
  dsimp only at hns₁ hsb₁ ⊢
  have hlist : (s₂.heap.push { cls := .type "dict", dict := none, data := .dict #[] }).DictOf (strKind P0 w) s₂.heap.objs.size [] := Heap.DictOf.new s₂.heap
  have hH2e : Ext s₂.heap (s₂.heap.push { cls := .type "dict", dict := none, data := .dict #[] }) := Ext.push' _ _
  have hC : (s₂.heap.push { cls := .type "dict", dict := none, data := .dict #[] }).objs.size = s₂.heap.objs.size + 1 := Heap.size_push ..
  generalize s₂.heap.push { cls := .type "dict", dict := none, data := .dict #[] } = H2 at hns₁ hsb₁ hlist hH2e hC ⊢
  have fresh : ∀ a, s₂.heap.objs.size ≤ a → s₂.heap.get? a = none := fun a ha => by
    cases e : s₂.heap.get? a with
    | none => rfl
    | some o' => exact absurd (Heap.lt_size e) (Nat.not_lt.mpr ha)
  have hC2 : s₂.heap.get? H2.objs.size = none := fresh _ (by rw [hC]; exact Nat.le_succ _)
  have hD2 : s₂.heap.get? s₂.heap.objs.size = none := fresh _ (Nat.le_refl _)
  have hDab : Above s.heap s₂.heap.objs.size := (Above.size _).ext k₂
  have hDC : s₂.heap.objs.size ≠ H2.objs.size := by rw [hC]; exact Nat.ne_of_lt (Nat.lt_succ_self _)
  generalize H2.objs.size = C at hns₁ hsb₁ hC hC2 hDC ⊢
  generalize s₂.heap.objs.size = D at hlist hC hD2 hDC hDab ⊢
  have nS : ∀ b, s₂.heap.get? b = none → s.heap.get? b = none := fun b hb => by
    cases e : s.heap.get? b with
    | none => rfl
    | some o => rw [k₂ _ _ e] at hb; cases hb
  have n0 : ∀ b, s.heap.get? b = none → h₀.get? b = none := fun b hb => by
    cases e : h₀.get? b with
    | none => rfl
    | some o => rw [F.keep _ _ e] at hb; cases hb
  have nP : ∀ b, s.heap.get? b = none → ¬ Priv env b := fun b hb p => by
    obtain ⟨o, ho⟩ := F.old b p
    rw [hb] at ho; cases ho
  have kC : Ext s₂.heap h₁ := fun b o e => hsb₁.extBut b o (fun q => by rw [q, hC2] at e; cases e) (Heap.get?_push_of_some _ (hH2e b o e))
  have hacc₁ : h₁.DictOf (strKind P0 w) D [] := hlist.at fun o e => hsb₁.extBut _ _ hDC (Heap.get?_push_of_some _ e)
  have F₁ : FF (compEnvC scope (capt env ns) C env) h₀ _ h₁ := (F.ext k₂).comp kC hC2 (by simpa using hns₁) hkind hcell hnd
  have Fd := hFd C hC2
  have hst₁ : St 0 h₁ := Fd.frame _ _ _ hst fun b _ o e => kC b o e
  have hZp : ∀ b, Z b → ¬ Priv (compEnvC scope (capt env ns) C env) b := fun b hb p => by
    rcases privC p with q | q
    · obtain ⟨o, ho⟩ := hZ2 b hb
      rw [q, hC2] at ho; cases ho
    · exact nP b (hZ b hb) q
  have hDp : ¬ Priv (compEnvC scope (capt env ns) C env) D := fun p => by
    rcases privC p with q | q
    · exact hDC q
    · exact nP D (nS D hD2) q
  have hDf : ¬ fp D := fun q => by obtain ⟨o, ho⟩ := hfp D q; rw [hD2] at ho; cases ho
  have hbad : ∀ b, (b = C ∨ Z b ∨ b = D) → s.heap.get? b = none := fun b hb => by
    rcases hb with rfl | hb | rfl
    · exact nS _ hC2
    · exact hZ b hb
    · exact nS _ hD2
  have loop : ∀ s₃ : Shared, s₃.heap = h₁ → Sm s₂ s₃ →
      codeAny (model P0 w) A (.compLoop (.DictComp kx vx [⟨target, iter, ifs, 0⟩] scope pos) 0 it (.ref D) (compEnvC scope (capt env ns) C env)) (RR (.ref D) C) s₃ := by
    intro s₃ e₃ M₃
    subst e₃
    refine LoopD (s := s₃) Fd hsz hZp (fun b hb => n0 b (hZ b hb)) hDf hDp (n0 D (nS D hD2)) (J (fun b => b = C ∨ Z b ∨ b = D))
      (fun i l h h₁ hj k => hJ _ i l h h₁ hj fun b o hb _ e => k b o (fun q => hb (.inl q)) (fun q => hb (.inr (.inl q))) (fun q => hb (.inr (.inr q))) e) F₁ hst₁ hacc₁ (hJ0 _ _ hbad (k₂.trans' kC)) ?_ ?_
    · intro i l s' v' hi M' k' F' hup hv' hacc' hst' hj E'
      have kS : Ext s.heap s'.heap := fun b o e => k' b o (fun q => by have := nS _ hC2; rw [show b = C from q, this] at e; cases e) (fun q => by rw [hZ b q] at e; cases e) (fun q => by rw [q, nS D hD2] at e; cases e) (kC b o (k₂ b o e))
      refine turn _ C i l s' v' hi ((M₂.trans' M₃).trans' M') kS F' hup (fun y hy => ?_) (fun b hb => ?_) hj E'
      · rw [hv' y (fun q => by
          rcases relabel_lookup (show ((relabel scope env).names.lookup y) = some .local from q) with q | ⟨q, _⟩
          · exact hy q
          · cases q), if_neg hy]
      · rcases hb with rfl | hb | rfl
        · exact F'.old b (.inl rfl)
        · exact Fd.live _ _ hst' b hb
        · obtain ⟨o, _, _, ho, _⟩ := hacc'; exact ⟨o, ho⟩
    · intro s' v' l M' F' hacc' hj k'
      have kS : Ext s.heap s'.heap := fun b o e => k' b o (fun q => by have := nS _ hC2; rw [show b = C from q, this] at e; cases e) (fun q => by rw [hZ b q] at e; cases e) (fun q => by rw [q, nS D hD2] at e; cases e) (kC b o (k₂ b o e))
      obtain ⟨m, hm, _⟩ := F'.ns
      exact done (fun b => b = C ∨ Z b ∨ b = D) C D l s' m ((M₂.trans' M₃).trans' M') kS hDab (nS C hC2) hDC (.inl rfl) hm (F.ext kS) hacc' hj
  exact codeAny_compStart_dict (loop _ rfl ⟨rfl, rfl⟩) (Fd.self 0 _ _ _ hst₁ (loop _ rfl ⟨rfl, rfl⟩))

theorem CompL {elt target iter : Expr} {ifs : List Expr} {scope : Scope} {ns : List Str} {pos : Pos} {n : Nat} {Up : Nat → (Str → Option Value) → Prop} {Q : Value → Shared → Prop}
    (J : (Addr → Prop) → Nat → List Value → Heap → Prop)
    (F : FF env h₀ v s.heap) (hsz : n ≤ sizeLine)
    (hiter : wpAny (model P0 w) A (eval iter env) (fun xv s₁ => wpAny (model P0 w) A (pyIter xv) (fun it s₂ => Sm s s₂ ∧ Ext s.heap s₂.heap ∧ SrcF w A env h₀ scope (capt env ns) s s₂ target it n Up) E s₁) E s)
    (hJ0 : ∀ bad h, (∀ b, bad b → s.heap.get? b = none) → Ext s.heap h → J bad 0 [] h)
    (hJ : ∀ bad i l h h₁, J bad i l h → (∀ b o, ¬ bad b → ¬ Priv env b → h.get? b = some o → h₁.get? b = some o) → J bad i l h₁)
    (turn : ∀ bad C i l s' v', i < n → Sm s s' → Ext s.heap s'.heap → FF (compEnvC scope (capt env ns) C env) h₀ v' s'.heap → Up i v' → (∀ y, scope.names.lookup y ≠ some .local → v' y = v y) → (∀ b, bad b → ∃ o, s'.heap.get? b = some o) → J bad i l s'.heap →
      ∀ E', Tests w A (compEnvC scope (capt env ns) C env) ifs (fun ok s₁ => if ok = true then wpAny (model P0 w) A (eval elt (compEnvC scope (capt env ns) C env)) (fun y s₂ => Sm s' s₂ ∧ Ext s'.heap s₂.heap ∧ J bad (i + 1) (l ++ [y]) s₂.heap) E' s₁
        else Sm s' s₁ ∧ Ext s'.heap s₁.heap ∧ J bad (i + 1) l s₁.heap) E' s')
    (done : ∀ bad D l s', Sm s s' → Ext s.heap s'.heap → Above s.heap D → FF env h₀ v s'.heap → s'.heap.PlainList D l.toArray → J bad n l s'.heap → Q (.ref D) s')
    (hclos : closureFor scope env = pure (capt env ns) := by rfl) (hkind : scope.kind = .function := by rfl) (hcell : ∀ y ∈ scope.names, y.2 ≠ .cell := by decide +kernel)
    (hnames : ∀ y ∈ scope.names, y.2 = .local → scope.names.lookup y.1 = some .local := by decide +kernel) (hnd : ns.Nodup := by decide +kernel)
    (hs : ∀ x, foldedSetIterable iter env x = pure x := by intro _; rfl) :
    wpAny (model P0 w) A (eval (.ListComp elt [⟨target, iter, ifs, 0⟩] scope pos) env) Q E s := by
  rw [eval_ListComp]
  refine wpAny_comprehension_free (use := none) rfl hs hclos hkind hnames (wpAny_mono hiter (fun xv s₁ h₁ => wpAny_mono h₁ (fun it s₂ h₂ => ?_) fun _ _ e => e) fun _ _ e => e)
  obtain ⟨M₂, k₂, hsrc⟩ := h₂
  refine CompL_core (RR := fun acc C => compPost (model P0 w) A E none Q acc C) J F hsz M₂ k₂ hsrc hJ0 hJ turn ?_ hkind hcell hnd
  intro bad C D l s' m M' k' hD hC hDC hbC hn F' hl' hj
  refine ⟨m, hn, fun h'' hs'' => ?_⟩
  have up : ∀ b o, b ≠ C → s'.heap.get? b = some o → h''.get? b = some o := fun b o hb e => hs''.extBut b o hb e
  have nP : ∀ b, s.heap.get? b = none → ¬ Priv env b := fun b hb p => by
    obtain ⟨o, ho⟩ := F.old b p
    rw [hb] at ho; cases ho
  have kS : Ext s.heap h'' := fun b o e => up b o (fun q => by rw [q, hC] at e; cases e) (k' b o e)
  exact done bad D l { s' with heap := h'' } ⟨M'.gens, M'.os⟩ kS hD (F.ext kS) (hl'.at fun o e => up D o hDC e) (hJ _ _ _ _ _ hj fun b o hb _ e => up b o (fun q => hb (q ▸ hbC)) e)

theorem CompL_assign {elt target iter : Expr} {ifs : List Expr} {scope : Scope} {ns : List Str} {pos : Pos} {n : Nat} {Up : Nat → (Str → Option Value) → Prop} {spos py : Pos} {y : Str} {Q : Flow → Shared → Prop}
    (J : (Addr → Prop) → Nat → List Value → Heap → Prop)
    (F : FF env h₀ v s.heap) (hsz : n ≤ sizeLine)
    (hiter : wpAny (model P0 w) A (eval iter env) (fun xv s₁ => wpAny (model P0 w) A (pyIter xv) (fun it s₂ => Sm s s₂ ∧ Ext s.heap s₂.heap ∧ SrcF w A env h₀ scope (capt env ns) s s₂ target it n Up) E s₁) E s)
    (hJ0 : ∀ bad h, (∀ b, bad b → s.heap.get? b = none) → Ext s.heap h → J bad 0 [] h)
    (hJ : ∀ bad i l h h₁, J bad i l h → (∀ b o, ¬ bad b → ¬ Priv env b → h.get? b = some o → h₁.get? b = some o) → J bad i l h₁)
    (turn : ∀ bad C i l s' v', i < n → Sm s s' → Ext s.heap s'.heap → FF (compEnvC scope (capt env ns) C env) h₀ v' s'.heap → Up i v' → (∀ y, scope.names.lookup y ≠ some .local → v' y = v y) → (∀ b, bad b → ∃ o, s'.heap.get? b = some o) → J bad i l s'.heap →
      ∀ E', Tests w A (compEnvC scope (capt env ns) C env) ifs (fun ok s₁ => if ok = true then wpAny (model P0 w) A (eval elt (compEnvC scope (capt env ns) C env)) (fun y s₂ => Sm s' s₂ ∧ Ext s'.heap s₂.heap ∧ J bad (i + 1) (l ++ [y]) s₂.heap) E' s₁
        else Sm s' s₁ ∧ Ext s'.heap s₁.heap ∧ J bad (i + 1) l s₁.heap) E' s')
    (hy : Held env y = true)
    (done : ∀ bad D l s', Sm s s' → Above s.heap D → FF env h₀ (fun z => if z = y then some (.ref D) else v z) s'.heap → (∀ b o, ¬ Priv env b → s.heap.get? b = some o → s'.heap.get? b = some o) → s'.heap.PlainList D l.toArray → J bad n l s'.heap → Q .next s')
    (hsw : swapsWith (.ListComp elt [⟨target, iter, ifs, 0⟩] scope pos) (some (.Name y py)) spos.line env = pure true := by rfl)
    (hclos : closureFor scope env = pure (capt env ns) := by rfl) (hkind : scope.kind = .function := by rfl) (hcell : ∀ y ∈ scope.names, y.2 ≠ .cell := by decide +kernel)
    (hnames : ∀ y ∈ scope.names, y.2 = .local → scope.names.lookup y.1 = some .local := by decide +kernel) (hnd : ns.Nodup := by decide +kernel)
    (hs : ∀ x, foldedSetIterable iter env x = pure x := by intro _; rfl) :
    wpAny (model P0 w) A (exec (.Assign [.Name y py] (.ListComp elt [⟨target, iter, ifs, 0⟩] scope pos) spos) env) Q E s := by
  rw [exec_Assign_Name_used _ _ _ _ hsw]
  refine wpAny_bind (wpAny_standAt (wpAny_bind ?_))
  show wpAny _ A (do let _ ← comprehension (.ListComp elt [⟨target, iter, ifs, 0⟩] scope pos) scope env _ (newList []) false (eval iter env) (some (assign (.Name y py) env))) _ _ s
  refine wpAny_bind (wpAny_mono (wpAny_comprehension_free (use := some (assign (.Name y py) env)) (Q := fun _ s' => Q .next s') rfl hs hclos hkind hnames
    (wpAny_mono hiter (fun xv s₁ h₁ => wpAny_mono h₁ (fun it s₂ h₂ => ?_) fun _ _ e => e) fun _ _ e => e)) (fun _ s' hq => wpAny_pure (wpAny_pure hq)) fun _ _ e => e)
  obtain ⟨M₂, k₂, hsrc⟩ := h₂
  refine CompL_core (RR := fun acc C => compPost (model P0 w) A E (some (assign (.Name y py) env)) (fun _ s' => Q .next s') acc C) J F hsz M₂ k₂ hsrc hJ0 hJ turn ?_ hkind hcell hnd
  intro bad C D l s' m M' k' hD hC hDC hbC hn F' hl' hj
  have nP : ∀ b, s.heap.get? b = none → ¬ Priv env b := fun b hb p => by
    obtain ⟨o, ho⟩ := F.old b p
    rw [hb] at ho; cases ho
  have n0 : ∀ b, s.heap.get? b = none → h₀.get? b = none := fun b hb => by
    cases e : h₀.get? b with
    | none => rfl
    | some o => rw [F.keep _ _ e] at hb; cases hb
  show wpAny _ A (assign (.Name y py) env (.ref D)) _ _ _
  refine wpAny_assign_Name (stF F' hy fun s₁ M₁ F₁ S₁ => ?_)
  refine ⟨m, hn.at' fun o e => S₁ C o (nP C hC) e, fun h'' hs'' => ?_⟩
  have up : ∀ b o, b ≠ C → s₁.heap.get? b = some o → h''.get? b = some o := fun b o hb e => hs''.extBut b o hb e
  refine done bad D l { s₁ with heap := h'' } ⟨M₁.gens.trans M'.gens, M₁.os.trans M'.os⟩ hD (F₁.mut (nP C hC) (n0 C hC) up) (fun b o hp e => up b o (fun q => by rw [q, hC] at e; cases e) (S₁ b o hp (k' b o e))) ((hl'.at fun o e => S₁ D o (nP D hD.none) e).at fun o e => up D o hDC e)
    (hJ _ _ _ _ _ hj fun b o hb hp e => up b o (fun q => hb (q ▸ hbC)) (S₁ b o hp e))

theorem CompD {kx vx target iter : Expr} {ifs : List Expr} {scope : Scope} {ns : List Str} {pos : Pos} {n : Nat} {Up : Nat → (Str → Option Value) → Prop} {Q : Value → Shared → Prop}
    (J : (Addr → Prop) → Nat → List (Str × Value) → Heap → Prop)
    (F : FF env h₀ v s.heap) (hsz : n ≤ sizeLine)
    (hiter : wpAny (model P0 w) A (eval iter env) (fun xv s₁ => wpAny (model P0 w) A (pyIter xv) (fun it s₂ => Sm s s₂ ∧ Ext s.heap s₂.heap ∧ SrcF w A env h₀ scope (capt env ns) s s₂ target it n Up) E s₁) E s)
    (hJ0 : ∀ bad h, (∀ b, bad b → s.heap.get? b = none) → Ext s.heap h → J bad 0 [] h)
    (hJ : ∀ bad i l h h₁, J bad i l h → (∀ b o, ¬ bad b → ¬ Priv env b → h.get? b = some o → h₁.get? b = some o) → J bad i l h₁)
    (turn : ∀ bad C i l s' v', i < n → Sm s s' → Ext s.heap s'.heap → FF (compEnvC scope (capt env ns) C env) h₀ v' s'.heap → Up i v' → (∀ y, scope.names.lookup y ≠ some .local → v' y = v y) → (∀ b, bad b → ∃ o, s'.heap.get? b = some o) → J bad i l s'.heap →
      ∀ E', Tests w A (compEnvC scope (capt env ns) C env) ifs (fun ok s₁ => if ok = true then wpAny (model P0 w) A (eval kx (compEnvC scope (capt env ns) C env)) (fun kv s₂ => ∃ k t, kv = .str k t ∧ wpAny (model P0 w) A (eval vx (compEnvC scope (capt env ns) C env)) (fun y s₃ => Sm s' s₃ ∧ Ext s'.heap s₃.heap ∧ J bad (i + 1) (stored l k y) s₃.heap) E' s₂) E' s₁
        else Sm s' s₁ ∧ Ext s'.heap s₁.heap ∧ J bad (i + 1) l s₁.heap) E' s')
    (done : ∀ bad D l s', Sm s s' → Ext s.heap s'.heap → Above s.heap D → FF env h₀ v s'.heap → s'.heap.DictOf (strKind P0 w) D l → J bad n l s'.heap → Q (.ref D) s')
    (hclos : closureFor scope env = pure (capt env ns) := by rfl) (hkind : scope.kind = .function := by rfl) (hcell : ∀ y ∈ scope.names, y.2 ≠ .cell := by decide +kernel)
    (hnames : ∀ y ∈ scope.names, y.2 = .local → scope.names.lookup y.1 = some .local := by decide +kernel) (hnd : ns.Nodup := by decide +kernel)
    (hs : ∀ x, foldedSetIterable iter env x = pure x := by intro _; rfl) :
    wpAny (model P0 w) A (eval (.DictComp kx vx [⟨target, iter, ifs, 0⟩] scope pos) env) Q E s := by
  rw [arm_eval_DictComp]
  refine wpAny_comprehension_free (use := none) rfl hs hclos hkind hnames (wpAny_mono hiter (fun xv s₁ h₁ => wpAny_mono h₁ (fun it s₂ h₂ => ?_) fun _ _ e => e) fun _ _ e => e)
  obtain ⟨M₂, k₂, hsrc⟩ := h₂
  refine CompD_core (RR := fun acc C => compPost (model P0 w) A E none Q acc C) J F hsz M₂ k₂ hsrc hJ0 hJ turn ?_ hkind hcell hnd
  intro bad C D l s' m M' k' hD hC hDC hbC hn F' hl' hj
  refine ⟨m, hn, fun h'' hs'' => ?_⟩
  have up : ∀ b o, b ≠ C → s'.heap.get? b = some o → h''.get? b = some o := fun b o hb e => hs''.extBut b o hb e
  have nP : ∀ b, s.heap.get? b = none → ¬ Priv env b := fun b hb p => by
    obtain ⟨o, ho⟩ := F.old b p
    rw [hb] at ho; cases ho
  have kS : Ext s.heap h'' := fun b o e => up b o (fun q => by rw [q, hC] at e; cases e) (k' b o e)
  exact done bad D l { s' with heap := h'' } ⟨M'.gens, M'.os⟩ kS hD (F.ext kS) (hl'.at fun o e => up D o hDC e) (hJ _ _ _ _ _ hj fun b o hb _ e => up b o (fun q => hb (q ▸ hbC)) e)

theorem CompD_assign {kx vx target iter : Expr} {ifs : List Expr} {scope : Scope} {ns : List Str} {pos : Pos} {n : Nat} {Up : Nat → (Str → Option Value) → Prop} {spos py : Pos} {y : Str} {Q : Flow → Shared → Prop}
    (J : (Addr → Prop) → Nat → List (Str × Value) → Heap → Prop)
    (F : FF env h₀ v s.heap) (hsz : n ≤ sizeLine)
    (hiter : wpAny (model P0 w) A (eval iter env) (fun xv s₁ => wpAny (model P0 w) A (pyIter xv) (fun it s₂ => Sm s s₂ ∧ Ext s.heap s₂.heap ∧ SrcF w A env h₀ scope (capt env ns) s s₂ target it n Up) E s₁) E s)
    (hJ0 : ∀ bad h, (∀ b, bad b → s.heap.get? b = none) → Ext s.heap h → J bad 0 [] h)
    (hJ : ∀ bad i l h h₁, J bad i l h → (∀ b o, ¬ bad b → ¬ Priv env b → h.get? b = some o → h₁.get? b = some o) → J bad i l h₁)
    (turn : ∀ bad C i l s' v', i < n → Sm s s' → Ext s.heap s'.heap → FF (compEnvC scope (capt env ns) C env) h₀ v' s'.heap → Up i v' → (∀ y, scope.names.lookup y ≠ some .local → v' y = v y) → (∀ b, bad b → ∃ o, s'.heap.get? b = some o) → J bad i l s'.heap →
      ∀ E', Tests w A (compEnvC scope (capt env ns) C env) ifs (fun ok s₁ => if ok = true then wpAny (model P0 w) A (eval kx (compEnvC scope (capt env ns) C env)) (fun kv s₂ => ∃ k t, kv = .str k t ∧ wpAny (model P0 w) A (eval vx (compEnvC scope (capt env ns) C env)) (fun y s₃ => Sm s' s₃ ∧ Ext s'.heap s₃.heap ∧ J bad (i + 1) (stored l k y) s₃.heap) E' s₂) E' s₁
        else Sm s' s₁ ∧ Ext s'.heap s₁.heap ∧ J bad (i + 1) l s₁.heap) E' s')
    (hy : Held env y = true)
    (done : ∀ bad D l s', Sm s s' → Above s.heap D → FF env h₀ (fun z => if z = y then some (.ref D) else v z) s'.heap → (∀ b o, ¬ Priv env b → s.heap.get? b = some o → s'.heap.get? b = some o) → s'.heap.DictOf (strKind P0 w) D l → J bad n l s'.heap → Q .next s')
    (hsw : swapsWith (.DictComp kx vx [⟨target, iter, ifs, 0⟩] scope pos) (some (.Name y py)) spos.line env = pure true := by rfl)
    (hclos : closureFor scope env = pure (capt env ns) := by rfl) (hkind : scope.kind = .function := by rfl) (hcell : ∀ y ∈ scope.names, y.2 ≠ .cell := by decide +kernel)
    (hnames : ∀ y ∈ scope.names, y.2 = .local → scope.names.lookup y.1 = some .local := by decide +kernel) (hnd : ns.Nodup := by decide +kernel)
    (hs : ∀ x, foldedSetIterable iter env x = pure x := by intro _; rfl) :
    wpAny (model P0 w) A (exec (.Assign [.Name y py] (.DictComp kx vx [⟨target, iter, ifs, 0⟩] scope pos) spos) env) Q E s := by
  rw [exec_Assign_Name_used _ _ _ _ hsw]
  refine wpAny_bind (wpAny_standAt (wpAny_bind ?_))
  show wpAny _ A (do let _ ← comprehension (.DictComp kx vx [⟨target, iter, ifs, 0⟩] scope pos) scope env _ (newDict) false (eval iter env) (some (assign (.Name y py) env))) _ _ s
  refine wpAny_bind (wpAny_mono (wpAny_comprehension_free (use := some (assign (.Name y py) env)) (Q := fun _ s' => Q .next s') rfl hs hclos hkind hnames
    (wpAny_mono hiter (fun xv s₁ h₁ => wpAny_mono h₁ (fun it s₂ h₂ => ?_) fun _ _ e => e) fun _ _ e => e)) (fun _ s' hq => wpAny_pure (wpAny_pure hq)) fun _ _ e => e)
  obtain ⟨M₂, k₂, hsrc⟩ := h₂
  refine CompD_core (RR := fun acc C => compPost (model P0 w) A E (some (assign (.Name y py) env)) (fun _ s' => Q .next s') acc C) J F hsz M₂ k₂ hsrc hJ0 hJ turn ?_ hkind hcell hnd
  intro bad C D l s' m M' k' hD hC hDC hbC hn F' hl' hj
  have nP : ∀ b, s.heap.get? b = none → ¬ Priv env b := fun b hb p => by
    obtain ⟨o, ho⟩ := F.old b p
    rw [hb] at ho; cases ho
  have n0 : ∀ b, s.heap.get? b = none → h₀.get? b = none := fun b hb => by
    cases e : h₀.get? b with
    | none => rfl
    | some o => rw [F.keep _ _ e] at hb; cases hb
  show wpAny _ A (assign (.Name y py) env (.ref D)) _ _ _
  refine wpAny_assign_Name (stF F' hy fun s₁ M₁ F₁ S₁ => ?_)
  refine ⟨m, hn.at' fun o e => S₁ C o (nP C hC) e, fun h'' hs'' => ?_⟩
  have up : ∀ b o, b ≠ C → s₁.heap.get? b = some o → h''.get? b = some o := fun b o hb e => hs''.extBut b o hb e
  refine done bad D l { s₁ with heap := h'' } ⟨M₁.gens.trans M'.gens, M₁.os.trans M'.os⟩ hD (F₁.mut (nP C hC) (n0 C hC) up) (fun b o hp e => up b o (fun q => by rw [q, hC] at e; cases e) (S₁ b o hp (k' b o e))) ((hl'.at fun o e => S₁ D o (nP D hD.none) e).at fun o e => up D o hDC e)
    (hJ _ _ _ _ _ hj fun b o hb hp e => up b o (fun q => hb (q ▸ hbC)) (S₁ b o hp e))
end
end Zd

namespace Zd
open PySem PySem.W PyProof.Rows PySem.Calls

section
variable {w : World} {A : Around} {E : Value → Shared → Prop} {s : Shared} {env : Env} {h₀ : Heap} {v : Str → Option Value}

theorem FF.nP (F : FF env h₀ v s.heap) {b : Addr} (hb : s.heap.get? b = none) : ¬ Priv env b := fun p => by
  obtain ⟨o, ho⟩ := F.old b p
  rw [hb] at ho; cases ho
theorem FF.n0 (F : FF env h₀ v s.heap) {b : Addr} (hb : s.heap.get? b = none) : h₀.get? b = none := by
  cases e : h₀.get? b with
  | none => rfl
  | some o => rw [F.keep _ _ e] at hb; cases hb
theorem Heap.fresh {h : Heap} {a : Addr} (ha : h.objs.size ≤ a) : h.get? a = none := by
  cases e : h.get? a with
  | none => rfl
  | some o' => exact absurd (Heap.lt_size e) (Nat.not_lt.mpr ha)
theorem none_of_ext {h h' : Heap} (k : Ext h h') {b : Addr} (hb : h'.get? b = none) : h.get? b = none := by
  cases e : h.get? b with
  | none => rfl
  | some o => rw [k _ _ e] at hb; cases hb

/-- a name bound from a walked source -/
theorem SrcF.name {scope : Scope} {ns : List Str} {s₂ : Shared} {x : Str} {px : Pos} {it : Value} {n : Nat} {P : Nat → Value → Prop} (F : FF env h₀ v s.heap) (hx : scope.names.lookup x = some .local)
    (h : Src w A env (fun _ => False) s s₂ it n P) : SrcF w A env h₀ scope (capt env ns) s s₂ (.Name x px) it n (fun i v' => ∃ val, P i val ∧ v' x = some val) := by
  obtain ⟨I, fp, wr, St, rfl, W, hst, hwr, hSw, hfp⟩ := h
  refine ⟨(· ∈ wr), (· ∈ fp), St, hst, hwr, hSw 0 _ hst, fun b hb => (hfp b hb).elim (hSw 0 _ hst b) fun q => q.1, fun C hC => ?_⟩
  have hp : ∀ b ∈ wr, ¬ Priv (compEnvC scope (capt env ns) C env) b := fun b hb p => by
    rcases privC p with q | q
    · obtain ⟨o, ho⟩ := hSw 0 _ hst b hb
      rw [q, hC] at ho; cases ho
    · exact F.nP (hwr b hb) q
  have hCf : C ∉ fp := fun q => by
    obtain ⟨o, ho⟩ := (hfp C q).elim (hSw 0 _ hst C) fun q => q.1
    rw [hC] at ho; cases ho
  refine ⟨W.sub, hSw, fun i h h' a k => W.frame i h h' a k, fun i s v Q E hi hst F' hQ => ?_, fun s Q E hst hQ => W.done s Q E hst fun h' tk k => hQ _ ⟨rfl, rfl⟩ k, fun i s Q E hst hQ => W.self i s Q E hst hQ⟩
  refine W.item i s _ E hi hst fun val h' tk hP hst' hk => ?_
  show wpAny _ _ (pure ()) _ _ _
  refine wpAny_pure (wpAny_assign_Name ?_)
  have F₁ := F'.muts (h' := h') (X := (· ∈ wr)) hp (fun b hb => F.n0 (hwr b hb)) hk
  refine stL (s := { s with heap := h', toks := tk }) F₁ (lookup_relabel_local hx) fun s₂ M₂ F₂ S₂ => ?_
  refine hQ s₂ _ ⟨M₂.gens, M₂.os⟩ F₂ ⟨val, hP, if_pos rfl⟩ (fun y hy => if_neg fun e => hy (by rw [e]; exact lookup_relabel_local hx)) (W.frame _ _ _ hst' fun b hb o e => S₂ b o (fun q => hCf (by rw [← show b = C from q]; exact hb)) e) fun b o h1 h2 e => S₂ b o h1 (hk b o h2 e)

/-- iterating over a list -/
theorem src_list {X : Addr → Prop} {s₁ : Shared} {a : Addr} {items : Array Value} (hh : A.handled = none) (M : Sm s s₁) (k : Ext s.heap s₁.heap) (hl : s₁.heap.IsList a items) (hp : ¬ Priv env a) (hX : ¬ X a) :
    wpAny (model P0 w) A (pyIter (.ref a)) (fun it s₂ => Sm s s₂ ∧ Ext s.heap s₂.heap ∧ Src w A env X s s₂ it items.size (fun i v => items[i]? = some v)) E s₁ := by
  refine wpAny_pyIter_list hl ?_
  have hne : a ≠ s₁.heap.objs.size := by obtain ⟨o, ho, _⟩ := hl; exact Nat.ne_of_lt (Heap.lt_size ho)
  obtain ⟨o, ho, _⟩ := id hl
  refine ⟨⟨M.gens, M.os⟩, k.trans' (Ext.push' _ _), _, _, _, _, rfl, Walks.list hh _ a hne items, ⟨⟨_, Heap.get?_push_size _ rfl, rfl, rfl⟩, hl.push _⟩, fun b hb => ?_, fun i h st b hb => ?_, fun b hb => ?_⟩
  · rw [List.mem_singleton.mp hb]; exact none_of_ext k (Heap.fresh (Nat.le_refl _))
  · rw [List.mem_singleton.mp hb]; obtain ⟨oi, ho, _⟩ := st.1; exact ⟨oi, ho⟩
  · rcases List.mem_cons.mp hb with rfl | hb
    · exact .inl (.head _)
    · rw [List.mem_singleton.mp hb]
      exact .inr ⟨⟨_, Ext.push' _ _ _ _ ho⟩, hp, hX⟩

theorem range0 (hh : A.handled = none) (I : Addr) (n : Nat) : Walks P0 w A I [I] [I] n (fun i v => ∃ t, v = .int i t) (fun i h => IsRangeIter h I (i : Nat) ((n : Int) - (i : Nat)) 1) := by
  have := Walks.range (prog := P0) (w := w) hh I 0 1 n
  simpa using this
/-- iterating over a range from 0 -/
theorem src_range {X : Addr → Prop} {s₁ : Shared} {n : Nat} {t : Tok} (hh : A.handled = none) (M : Sm s s₁) (k : Ext s.heap s₁.heap) (hsz : Builtin.Range.rangeSize 0 n 1 = (n : Int) := by decide +kernel) (hsm : Builtin.Range.small 0 n 1 = true := by decide +kernel) :
    wpAny (model P0 w) A (call (.type "range") [.int n t] []) (fun xv s₁ => wpAny (model P0 w) A (pyIter xv) (fun it s₂ => Sm s s₂ ∧ Ext s.heap s₂.heap ∧ Src w A env X s s₂ it n (fun i v => ∃ t, v = .int i t)) E s₁) E s₁ := by
  refine call_range_1 ?_
  have hr : IsRange (s₁.heap.push { cls := .type "range", data := .fields #[.int 0 s₁.toks, .int n t, .int 1 (s₁.toks + 1)] }) s₁.heap.objs.size 0 n 1 s₁.toks t (s₁.toks + 1) := Heap.get?_push_size _ rfl
  refine wpAny_pyIter_range (s := { s₁ with heap := _, toks := _ }) hr hsm ?_
  have k2 : Ext s.heap ((s₁.heap.push { cls := .type "range", data := .fields #[.int 0 s₁.toks, .int n t, .int 1 (s₁.toks + 1)] }).push { cls := .type "range_iterator", data := .fields #[rawInt 0, rawInt (Builtin.Range.rangeSize 0 n 1), rawInt 1] }) := (k.trans' (Ext.push' _ _)).trans' (Ext.push' _ _)
  refine ⟨⟨M.gens, M.os⟩, k2, _, _, _, _, rfl, range0 hh _ n, ?_, fun b hb => ?_, fun i h st b hb => ?_, fun b hb => ?_⟩
  · show IsRangeIter _ _ _ _ _
    rw [hsz]
    simp only [Int.natCast_zero, Int.sub_zero]
    exact Heap.get?_push_size _ rfl
  · rw [List.mem_singleton.mp hb]; exact none_of_ext (k.trans' (Ext.push' _ _)) (Heap.fresh (Nat.le_refl _))
  · rw [List.mem_singleton.mp hb]; exact ⟨_, st⟩
  · exact .inl hb

theorem entry_dict_itemiterator_iter : entryFor table "dict_itemiterator.__iter__" = some Builtin.«dict_keyiterator.__iter__» :=
  entryFor_alias (id' := "dict_keyiterator.__iter__") (by kernel_rfl) (by first | rfl | decide +kernel | (unfold String.splitOn; simp +decide [String.splitOnAux])) (by decide +kernel) (by kernel_rfl)
theorem pyIter_itemiter {it d : Addr} {i n ep : Nat} {ok ov : Value} {Q : Value → Shared → Prop} (hit : IsItemIter s.heap it d i n ep ok ov) (h : Q (.ref it) s) : wpAny (model P0 w) A (pyIter (.ref it)) Q E s := by
  have hT : s.TypeIs (.ref it) "dict_itemiterator" := ⟨_, hit, rfl⟩
  refine wpAny_pyIter_slot hT F.slot_dict_itemiterator_iter (wpAny_call_entry F.slot_dict_itemiterator_iter hT entry_dict_itemiterator_iter ?_ (F.args_dict_itemiterator_iter_1 _))
  show wpAny _ _ (ret (.ref it)) _ _ s
  exact wpAny_pure ⟨_, rfl, "dict_itemiterator", _, hT, F.slot_dict_itemiterator_next.lookup, h⟩

/-- d.items() with two names -/
theorem srcF_items {scope : Scope} {ns : List Str} {xk xv : Str} {pk pv pt apos cpos : Pos} {x1} {o : Expr} {d : Addr} {kvs : List (Str × Value)} (hh : A.handled = none) (hdS : (d == sysModules) = false) (F₀ : FF env h₀ v s.heap) (hm : s.heap.DictOf (strKind P0 w) d kvs) (hdp : ¬ Priv env d)
    (hxk : scope.names.lookup xk = some .local) (hxv : scope.names.lookup xv = some .local) (hne : xk ≠ xv)
    (ho : ∀ Q', Q' (.ref d) s → wpAny (model P0 w) A (eval o env) Q' E s)
    (hbase : attributeBase o (Str.ofString "items") env (eval o env) = eval o env := by rfl) (hline : (apos.endLine == cpos.line) = true := by rfl) :
    wpAny (model P0 w) A (eval (.Call (.Attribute o (Str.ofString "items") apos) [] [] cpos) env) (fun xv' s₁ => wpAny (model P0 w) A (pyIter xv') (fun it s₂ => Sm s s₂ ∧ Ext s.heap s₂.heap ∧
      SrcF w A env h₀ scope (capt env ns) s s₂ (.Tuple [.Name xk pk, .Name xv pv] x1 pt) it kvs.length (fun i v' => ∃ k kt val, kvs[i]? = some (k, val) ∧ v' xk = some (.str k kt) ∧ v' xv = some val)) E s₁) E s := by
  obtain ⟨ep, hm'⟩ := hm.dictAt
  have hlt := hm'.lt_size
  refine wpAny_Call_items hdS hm hbase hline ho (wpAny_pyIter_items (knd := strKind P0 w) (d := d) (kvs := kvs) (ep := ep) ⟨_, Heap.get?_push_size _ rfl, rfl, rfl⟩ (hm'.push _) ?_)
  have k2 : Ext s.heap ((s.heap.push { cls := .type "dict_items", data := .fields #[.ref d] }).push { cls := .type "dict_itemiterator", data := .fields #[.none, .bool false, .ref d, .int 0 0, .int kvs.length 0, .int ep 0, .none, .none] }) := (Ext.push' _ _).trans' (Ext.push' _ _)
  have hit0 : IsItemIter ((s.heap.push { cls := .type "dict_items", data := .fields #[.ref d] }).push { cls := .type "dict_itemiterator", data := .fields #[.none, .bool false, .ref d, .int 0 0, .int kvs.length 0, .int ep 0, .none, .none] }) (s.heap.push { cls := .type "dict_items", data := .fields #[.ref d] }).objs.size d 0 kvs.length ep .none .none := Heap.get?_push_size _ rfl
  have hnew : s.heap.get? (s.heap.push { cls := .type "dict_items", data := .fields #[.ref d] }).objs.size = none := none_of_ext (Ext.push' _ _) (Heap.fresh (Nat.le_refl _))
  revert hit0 k2 hnew
  generalize ((s.heap.push { cls := .type "dict_items", data := .fields #[.ref d] }).push { cls := .type "dict_itemiterator", data := .fields #[.none, .bool false, .ref d, .int 0 0, .int kvs.length 0, .int ep 0, .none, .none] }) = h₂
  generalize (s.heap.push { cls := .type "dict_items", data := .fields #[.ref d] }).objs.size = it
  intro k2 hit0 hnew
  have hdit : d ≠ it := fun e => by
    obtain ⟨od, _, hod, _⟩ := hm'
    rw [e, hnew] at hod; cases hod
  refine ⟨⟨rfl, rfl⟩, k2, (· = it), (fun b => b = it ∨ b = d), (fun i h => ∃ ok ov, IsItemIter h it d i kvs.length ep ok ov ∧ h.DictAt (strKind P0 w) d kvs ep), ⟨_, _, hit0, hm'.keep k2⟩, fun b hb => hb ▸ hnew, fun b hb => ⟨_, hb ▸ hit0⟩, fun b hb => ?_, fun C hC => ?_⟩
  · rcases hb with rfl | rfl
    · exact ⟨_, hit0⟩
    · obtain ⟨od, _, hod, _⟩ := hm'; exact ⟨od, k2 _ _ hod⟩
  replace hC : h₂.get? C = none := hC
  have hCit : C ≠ it := fun e => by rw [e] at hC; rw [show h₂.get? it = _ from hit0] at hC; cases hC
  have hCd : C ≠ d := fun e => by
    obtain ⟨od, _, hod, _⟩ := hm'
    rw [e, k2 _ _ hod] at hC; cases hC
  have hitP : ¬ Priv (compEnvC scope (capt env ns) C env) it := fun p => by
    rcases privC p with q | q
    · exact hCit q.symm
    · exact F₀.nP hnew q
  have hdP : ¬ Priv (compEnvC scope (capt env ns) C env) d := fun p => by
    rcases privC p with q | q
    · exact hCd q.symm
    · exact hdp q
  have mutI : ∀ {h h₁ : Heap} {v : Str → Option Value}, FF (compEnvC scope (capt env ns) C env) h₀ v h → (∀ b o, b ≠ it → h.get? b = some o → h₁.get? b = some o) → FF (compEnvC scope (capt env ns) C env) h₀ v h₁ := fun F k => F.mut hitP (F₀.n0 hnew) k
  refine ⟨fun b hb => .inl hb, fun i h ⟨ok, ov, a, _⟩ b hb => by rw [show b = it from hb]; exact ⟨_, a⟩, fun i h h' ⟨ok, ov, a, b⟩ k => ⟨ok, ov, k it (.inl rfl) _ a, b.at' fun o e => k d (.inr rfl) o e⟩, ?_, ?_, fun i s Q E ⟨ok, ov, a, b⟩ hQ => pyIter_itemiter a hQ⟩
  · rintro i s' v' Q' E' hi ⟨ok, ov, hit', hm1⟩ F' hQ
    obtain ⟨⟨k, val⟩, hv⟩ : ∃ kv, kvs[i]? = some kv := ⟨_, List.getElem?_eq_getElem hi⟩
    refine wpAny_pyNext_items_item hit' hm1 hv fun key h₁ hkey heo ht₁ hz₁ hk₁ => ?_
    obtain ⟨kt, rfl⟩ := Value.isStrOf_shape hkey
    refine wpAny_letOwnedTupleGo_items heo fun h₃ he₃ hs₃ => ?_
    replace hs₃ : Heap.SameBut it h₁ h₃ := hs₃
    have hiH : it < s'.heap.objs.size := Heap.lt_size hit'
    have ht₃ : h₃.IsTuple s'.heap.objs.size #[.str k kt, val] := ⟨_, (hs₃.2 _ (Nat.ne_of_gt hiH)).trans ht₁, rfl, _, rfl⟩
    have hz₃ : h₃.objs.size = s'.heap.objs.size + 1 := hs₃.1.trans hz₁
    refine wpAny_assign_Tuple hh ht₃ rfl rfl fun h₄ hx₄ => ?_
    replace hx₄ : Heap.ExtBut h₃.objs.size h₃ h₄ := hx₄
    have up : ∀ b o, b ≠ it → s'.heap.get? b = some o → h₄.get? b = some o := fun b o hb e =>
      hx₄ b o (by rw [hz₃]; exact Nat.ne_of_lt (Nat.lt_succ_of_lt (Heap.lt_size e))) (hs₃.extBut b o hb (hk₁ b o hb e))
    have F₄ := mutI F' up
    have he₄ : IsItemIter h₄ it d (i + 1) kvs.length ep (.str k kt) val := hx₄ it _ (by rw [hz₃]; exact Nat.ne_of_lt (Nat.lt_succ_of_lt hiH)) he₃
    show wpAny _ _ (do holding [val] (assign (.Name xk pk) _ (.str k kt)); do holding [] (assign (.Name xv pv) _ val); pure ()) _ _ _
    refine wpAny_bind (wpAny_holding (wpAny_assign_Name (stL (s := { s' with heap := h₄ }) F₄ (lookup_relabel_local hxk) fun s₅ M₅ F₅ S₅ => ?_)))
    refine wpAny_bind (wpAny_holding (wpAny_assign_Name (stL F₅ (lookup_relabel_local hxv) fun s₆ M₆ F₆ S₆ => wpAny_pure ?_)))
    refine hQ s₆ _ ⟨M₆.gens.trans M₅.gens, M₆.os.trans M₅.os⟩ F₆ ⟨k, kt, val, hv, ?_, if_pos rfl⟩ (fun y hy => ?_) ⟨_, _, S₆ it _ (Ne.symm hCit) (S₅ it _ (Ne.symm hCit) he₄), hm1.at' fun o e => S₆ d o (Ne.symm hCd) (S₅ d o (Ne.symm hCd) (up d o hdit e))⟩ fun b o h1 h2 e => S₆ b o h1 (S₅ b o h1 (up b o h2 e))
    · show (if _ then _ else _) = _
      rw [if_neg hne, if_pos rfl]
    · show (if _ then _ else if _ then _ else _) = _
      rw [if_neg (fun e => hy (by rw [e]; exact lookup_relabel_local hxv)), if_neg (fun e => hy (by rw [e]; exact lookup_relabel_local hxk))]
  · rintro s' Q' E' ⟨ok, ov, hit', hm1⟩ hQ
    exact wpAny_pyNext_items_end hh hit' hm1 (by simp) fun h₁ he₁ => hQ _ ⟨rfl, rfl⟩ fun b o hb e => he₁ b o hb e
end
end Zd

namespace Zd
open PySem PySem.W PyProof.Rows PySem.Calls

/-- a list of pairs of ints -/
def PairsL (h : Heap) (L : Addr) (ps : List (Int × Int)) : Prop :=
  ∃ Ts : List Addr, h.PlainList L (Ts.map Value.ref).toArray ∧ Ts.length = ps.length ∧ ∀ (i : Nat) (T : Addr) (p : Int × Int), Ts[i]? = some T → ps[i]? = some p → ∃ ta tb, h.IsTuple T #[.int p.1 ta, .int p.2 tb]

section
variable {w : World} {A : Around} {E : Value → Shared → Prop} {s : Shared} {env : Env} {h₀ : Heap} {v : Str → Option Value}

theorem src_str {X : Addr → Prop} {x : Str} {t : Tok} (hh : A.handled = none) (ha : x.cps.all (· < 128) = true) :
    wpAny (model P0 w) A (pyIter (.str x t)) (fun it s₂ => Sm s s₂ ∧ Ext s.heap s₂.heap ∧ Src w A env X s s₂ it x.cps.size (SignAt x)) E s := by
  refine wpAny_pyIter_ascii ha ?_
  refine ⟨⟨rfl, rfl⟩, Ext.push' _ _, _, _, _, _, rfl, Walks.strAscii hh _ x t, ⟨_, Heap.get?_push_size _ rfl, rfl, rfl⟩, fun b hb => ?_, fun i h st b hb => ?_, fun b hb => .inl hb⟩
  · rw [List.mem_singleton.mp hb]; exact Heap.fresh (Nat.le_refl _)
  · rw [List.mem_singleton.mp hb]; obtain ⟨o, ho, _⟩ := st; exact ⟨o, ho⟩

/-- a list of pairs, two names -/
theorem srcF_pairs {scope : Scope} {ns : List Str} {xk xv : Str} {pk pv pt : Pos} {x1} {L : Addr} {ps : List (Int × Int)} (hh : A.handled = none) (F₀ : FF env h₀ v s.heap) (hm : PairsL s.heap L ps)
    (hxk : scope.names.lookup xk = some .local) (hxv : scope.names.lookup xv = some .local) (hne : xk ≠ xv) :
    wpAny (model P0 w) A (pyIter (.ref L)) (fun it s₂ => Sm s s₂ ∧ Ext s.heap s₂.heap ∧
      SrcF w A env h₀ scope (capt env ns) s s₂ (.Tuple [.Name xk pk, .Name xv pv] x1 pt) it ps.length (fun i v' => ∃ p ta tb, ps[i]? = some p ∧ v' xk = some (.int p.1 ta) ∧ v' xv = some (.int p.2 tb))) E s := by
  obtain ⟨Ts, hpl, hlen, hT⟩ := hm
  have hl := hpl.isList
  refine wpAny_pyIter_list hl ?_
  have hLs : L < s.heap.objs.size := by obtain ⟨o, ho, _⟩ := hl; exact Heap.lt_size ho
  have hTs : ∀ T ∈ Ts, ∃ o, s.heap.get? T = some o := fun T hm => by
    obtain ⟨i, hi, rfl⟩ := List.getElem_of_mem hm
    obtain ⟨ta, tb, o, ho, _⟩ := hT i _ (ps[i]'(hlen ▸ hi)) (List.getElem?_eq_getElem hi) (List.getElem?_eq_getElem _)
    exact ⟨o, ho⟩
  have hit0 : (s.heap.push { cls := .type "list_iterator", data := .fields #[.ref L, .int 0 0] }).IsListIter s.heap.objs.size L 0 := ⟨_, Heap.get?_push_size _ rfl, rfl, rfl⟩
  have k2 : Ext s.heap (s.heap.push { cls := .type "list_iterator", data := .fields #[.ref L, .int 0 0] }) := Ext.push' _ _
  have hnew : s.heap.get? s.heap.objs.size = none := Heap.fresh (Nat.le_refl _)
  revert hit0 k2 hnew
  generalize (s.heap.push { cls := .type "list_iterator", data := .fields #[.ref L, .int 0 0] }) = h₂
  have hLne : L ≠ s.heap.objs.size := Nat.ne_of_lt hLs
  revert hLne
  generalize s.heap.objs.size = it
  intro hLne hit0 k2 hnew
  have hTne : ∀ T ∈ Ts, T ≠ it := fun T hm e => by obtain ⟨o, ho⟩ := hTs T hm; rw [e, hnew] at ho; cases ho
  have step : ∀ {h h' : Heap}, (∀ (i : Nat) (T : Addr) (p : Int × Int), Ts[i]? = some T → ps[i]? = some p → ∃ ta tb, h.IsTuple T #[.int p.1 ta, .int p.2 tb]) → (∀ T ∈ Ts, ∀ o, h.get? T = some o → h'.get? T = some o) →
      ∀ (i : Nat) (T : Addr) (p : Int × Int), Ts[i]? = some T → ps[i]? = some p → ∃ ta tb, h'.IsTuple T #[.int p.1 ta, .int p.2 tb] := fun a k i T p e1 e2 => by
    obtain ⟨ta, tb, x⟩ := a i T p e1 e2
    exact ⟨ta, tb, x.at fun o e => k T (List.mem_of_getElem? e1) o e⟩
  refine ⟨⟨rfl, rfl⟩, k2, (· = it), (fun b => b = it ∨ b = L ∨ b ∈ Ts), (fun i h => h.IsListIter it L i ∧ h.IsList L (Ts.map Value.ref).toArray ∧ ∀ (i : Nat) (T : Addr) (p : Int × Int), Ts[i]? = some T → ps[i]? = some p → ∃ ta tb, h.IsTuple T #[.int p.1 ta, .int p.2 tb]),
    ⟨hit0, hl.at fun o e => k2 _ _ e, step hT fun T _ o e => k2 _ _ e⟩, fun b hb => hb ▸ hnew, fun b hb => ?_, fun b hb => ?_, fun C hC => ?_⟩
  · obtain ⟨o, ho, _⟩ := hit0; exact ⟨o, hb ▸ ho⟩
  · rcases hb with rfl | rfl | hb
    · obtain ⟨o, ho, _⟩ := hit0; exact ⟨o, ho⟩
    · obtain ⟨o, ho, _⟩ := hl; exact ⟨o, k2 _ _ ho⟩
    · obtain ⟨o, ho⟩ := hTs b hb; exact ⟨o, k2 _ _ ho⟩
  replace hC : h₂.get? C = none := hC
  have hCit : C ≠ it := fun e => by obtain ⟨o, ho, _⟩ := hit0; rw [e, ho] at hC; cases hC
  have hCL : C ≠ L := fun e => by obtain ⟨o, ho, _⟩ := hl; rw [e, k2 _ _ ho] at hC; cases hC
  have hCT : ∀ T ∈ Ts, T ≠ C := fun T hm e => by obtain ⟨o, ho⟩ := hTs T hm; rw [← e, k2 _ _ ho] at hC; cases hC
  have hitP : ¬ Priv (compEnvC scope (capt env ns) C env) it := fun p => by
    rcases privC p with q | q
    · exact hCit q.symm
    · exact F₀.nP hnew q
  have mutI : ∀ {h h₁ : Heap} {v : Str → Option Value}, FF (compEnvC scope (capt env ns) C env) h₀ v h → (∀ b o, b ≠ it → h.get? b = some o → h₁.get? b = some o) → FF (compEnvC scope (capt env ns) C env) h₀ v h₁ := fun F k => F.mut hitP (F₀.n0 hnew) k
  refine ⟨fun b hb => .inl hb, fun i h ⟨a, _⟩ b hb => by rw [show b = it from hb]; obtain ⟨o, ho, _⟩ := a; exact ⟨o, ho⟩,
    fun i h h' ⟨a, b, c⟩ k => ⟨a.at fun o e => k it (.inl rfl) o e, b.at fun o e => k L (.inr (.inl rfl)) o e, step c fun T hm o e => k T (.inr (.inr hm)) o e⟩, ?_, ?_, fun i s Q E ⟨a, _⟩ hQ => wpAny_pyIter_listiter a hQ⟩
  · rintro i s' v' Q' E' hi ⟨hit', hl', hT'⟩ F' hQ
    have hiT : i < Ts.length := hlen ▸ hi
    have eT : Ts[i]? = some Ts[i] := List.getElem?_eq_getElem hiT
    have hmem : Ts[i] ∈ Ts := List.getElem_mem hiT
    obtain ⟨p, hp⟩ : ∃ p, ps[i]? = some p := ⟨_, List.getElem?_eq_getElem hi⟩
    refine wpAny_pyNext_list_item hit' hl' (x := .ref Ts[i]) (by simp [hiT]) fun h₁ hit₁ hs₁ => ?_
    refine wpAny_letOwnedTupleGo_listiter (s := { s' with heap := h₁ }) hit₁ ?_
    obtain ⟨ta, tb, ht⟩ := hT' i _ p eT hp
    refine wpAny_assign_Tuple (s := { s' with heap := h₁ }) hh (ht.at fun o e => hs₁.extBut _ o (hTne _ hmem) e) rfl rfl fun h₄ hx₄ => ?_
    replace hx₄ : Heap.ExtBut h₁.objs.size h₁ h₄ := hx₄
    have up : ∀ b o, b ≠ it → s'.heap.get? b = some o → h₄.get? b = some o := fun b o hb e =>
      hx₄ b o (Nat.ne_of_lt (Heap.lt_size (hs₁.extBut b o hb e))) (hs₁.extBut b o hb e)
    have F₄ := mutI F' up
    have he₄ : h₄.IsListIter it L (i + 1) := hit₁.at fun o e => hx₄ it o (Nat.ne_of_lt (Heap.lt_size e)) e
    show wpAny _ _ (do holding [.int p.2 tb] (assign (.Name xk pk) _ (.int p.1 ta)); do holding [] (assign (.Name xv pv) _ (.int p.2 tb)); pure ()) _ _ _
    refine wpAny_bind (wpAny_holding (wpAny_assign_Name (stL (s := { s' with heap := h₄ }) F₄ (lookup_relabel_local hxk) fun s₅ M₅ F₅ S₅ => ?_)))
    refine wpAny_bind (wpAny_holding (wpAny_assign_Name (stL F₅ (lookup_relabel_local hxv) fun s₆ M₆ F₆ S₆ => wpAny_pure ?_)))
    have upL : ∀ o, s'.heap.get? L = some o → s₆.heap.get? L = some o := fun o e => S₆ L o (Ne.symm hCL) (S₅ L o (Ne.symm hCL) (up L o hLne e))
    refine hQ s₆ _ ⟨M₆.gens.trans M₅.gens, M₆.os.trans M₅.os⟩ F₆ ⟨p, ta, tb, hp, ?_, if_pos rfl⟩ (fun y hy => ?_) ⟨he₄.at fun o e => S₆ it o (Ne.symm hCit) (S₅ it o (Ne.symm hCit) e), hl'.at upL, step hT' fun T hm o e => S₆ T o (hCT T hm) (S₅ T o (hCT T hm) (up T o (hTne T hm) e))⟩ fun b o h1 h2 e => S₆ b o h1 (S₅ b o h1 (up b o h2 e))
    · show (if _ then _ else _) = _
      rw [if_neg hne, if_pos rfl]
    · show (if _ then _ else if _ then _ else _) = _
      rw [if_neg (fun e => hy (by rw [e]; exact lookup_relabel_local hxv)), if_neg (fun e => hy (by rw [e]; exact lookup_relabel_local hxk))]
  · rintro s' Q' E' ⟨hit', hl', hT'⟩ hQ
    exact wpAny_pyNext_list_end hh hit' hl' (by simp [hlen]) fun h₁ he₁ => hQ _ ⟨rfl, rfl⟩ fun b o hb e => he₁ b o hb e
end
end Zd

namespace Zd
open PySem PySem.W PyProof.Rows PySem.Calls

def fd254 : FuncData := ⟨(Str.ofString "_law_grown"), (Str.ofString "_law_grown"), fParams (st 20), .stmts (fBody (st 20)), fScope (st 20), 3, [], .none, .none, .none, .str (Str.ofString "law_zd0012_01") 839, none, .ref 253, .none, 0⟩
theorem cd254 {w : World} {h : Heap} (B : Base w h) : ∃ o, h.get? 254 = some o ∧ o.data = .func fd254 ∧ h.CodeRec (.ref 253) (Str.ofString "_law_grown") :=
  ⟨_, B.k 254 _ rfl, rfl, 253, _, _, _, rfl, B.k 253 _ rfl, rfl, rfl⟩

/-- {k + c: n for k, n in xs} -/
def grownI (xs : List (Str × Int)) (c : Str) : List (Str × Int) := xs.foldl (fun acc kn => storedI acc (kn.1 ++ c) kn.2) []
theorem foldl_snoc_take {α β : Type} (f : β → α → β) (b : β) {xs : List α} {i : Nat} {x : α} (h : xs[i]? = some x) : (xs.take (i + 1)).foldl f b = f ((xs.take i).foldl f b) x := by
  rw [List.take_add_one, h, List.foldl_append]; rfl

theorem grown_spec {w : World} {A : Around} {E : Value → Shared → Prop} {s : Shared} {Q : Value → Shared → Prop} {a : Addr} {xs : List (Str × Int)} {c : Str} {ct : Tok} (B : Base w s.heap) (hA : A.depth < 900) (hh : A.handled = none)
    (ha : (a == sysModules) = false) (D : DictSI w s.heap a xs) (hz : xs.length ≤ 1000000) (hk : ∀ kn ∈ xs, kn.1.length ≤ 1000) (hc : c.length ≤ 1000)
    (h : ∀ s' r, Sm s s' → Ext s.heap s'.heap → s.heap.get? r = none → (r == sysModules) = false → DictSI w s'.heap r (grownI xs c) → Q (.ref r) s') : wpAny (model P0 w) A (call (.ref 254) [.ref a, .str c ct] []) Q E s := by
  obtain ⟨o, ho, hdat, hcd⟩ := cd254 B
  refine enterF (fd := fd254) (binds := [(Str.ofString "table", .ref a), (Str.ofString "letter", .str c ct)]) B (by unfold recursionLimit; omega) ho hdat hcd rfl (BindsTo.of_eq rfl) rfl (fun n => rfl) (by decide +kernel) fun s₁ M₁ F₁ => ?_
  obtain ⟨kvs, Dk, Ik⟩ := D
  obtain ⟨oa, _, _, hoa, _⟩ := id Dk
  refine wpAny_execs_cons (wpAny_Return_some ?_)
  refine CompD (ns := [Str.ofString "letter"]) (n := kvs.length) (fun bad i l h => IntsOf l (grownI (xs.take i) c)) F₁ (by rw [Ik.length, sizeLine_eq]; omega)
    (srcF_items (A := A.deeper _) hh ha F₁ (Dk.at fun o e => F₁.keep _ _ e) (F₁.notPriv hoa) (by decide +kernel) (by decide +kernel) (by decide) (fun Q' q => nmF F₁ rfl q (by kernel_rfl)))
    (fun _ _ _ _ => .nil) (fun _ _ _ _ _ a _ => a) ?_ ?_
  · rintro bad C i l s' v' hi M' k' F' ⟨k, kt, val, hkv, e1, e2⟩ hv' _ hj E'
    obtain ⟨n, tn, hx, rfl⟩ := Ik.get hkv
    refine Tests.nil ?_
    simp only [if_true]
    refine wpAny_BinOp (nmF F' e1 (nmF F' ((hv' _ (by decide +kernel)).trans rfl) (add_str (fun t' tk => ?_) ?_) (by kernel_rfl)) (by kernel_rfl))
    · refine ⟨_, _, rfl, nmF (s := { s' with toks := tk }) F' e2 ⟨⟨rfl, rfl⟩, fun _ _ e => e, ?_⟩ (by kernel_rfl)⟩
      have := hj.stored (k ++ c) n tn
      unfold grownI at this ⊢
      rw [foldl_snoc_take _ _ hx]
      exact this
    · have h1 := hk _ (List.mem_of_getElem? hx)
      rw [sizeLine_eq]; show k.length + c.length ≤ _; dsimp only at h1; omega
  · intro bad D l s' M' k' hD F' hl hj
    refine h s' D (M₁.trans' M') F'.keep ?_ ?_ ⟨l, hl, by rw [Ik.length, List.take_length] at hj; exact hj⟩
    · exact (hD.ext F₁.keep).none
    · exact B.above (hD.ext F₁.keep)
end Zd

namespace Zd
open PySem PySem.W PyProof.Rows PySem.Calls

def keysOf (o : Obj) : List Int := match o.data with | .set es _ _ => es.toList.map (fun e => match e.2 with | .int n _ => n | _ => 0) | _ => []
def fine (o : Obj) (hash : Int → Int) : Bool := match o.data with | .set es _ t => es.all (fun e => match e.2 with | .int n _ => e.1 == hash n && e.2.scannable | _ => false) && t.fits es.size && decide (es.size < scanBound) | _ => false

theorem setOf_fine {w : World} {h : Heap} {a : Addr} {o : Obj} (ho : h.get? a = some o) (hx : o.ExactSet) (hf : fine o (intKind P0 w).hash = true) : ∃ n, h.SetOf (intKind P0 w) a (fun k => (keysOf o).contains k) n := by
  obtain ⟨c, d, data, sl⟩ := o
  cases data with
  | set es ep t =>
    simp only [fine, Bool.and_eq_true, decide_eq_true_eq] at hf
    obtain ⟨⟨h1, h2⟩, h3⟩ := hf
    have h1 := Array.all_eq_true_iff_forall_mem.mp h1
    refine ⟨es.size, _, es, ep, t, ho, hx, rfl, fun e he => ?_, fun k => ?_, h3, h2, rfl⟩
    · have := h1 e (by simpa using he)
      obtain ⟨e1, e2⟩ := e
      cases e2 with
      | int n u =>
        simp only [Bool.and_eq_true, beq_iff_eq] at this
        exact ⟨⟨n, intKind_is P0 w n u, this.1⟩, this.2⟩
      | _ => cases this
    · rw [List.contains_iff_mem]
      simp only [keysOf, List.mem_map]
      constructor
      · rintro ⟨e, he, q⟩
        have := h1 e (by simpa using he)
        obtain ⟨e1, e2⟩ := e
        cases e2 with
        | int n u => subst q; exact ⟨_, he, intKind_is P0 w n u⟩
        | _ => cases this
      · rintro ⟨e, he, q⟩
        have := h1 e (by simpa using he)
        obtain ⟨e1, e2⟩ := e
        refine ⟨_, he, ?_⟩
        cases e2 with
        | int n u =>
          have := KeyKind.is_eq_decide (knd := intKind P0 w) (intKind_is P0 w n u) k
          rw [q] at this
          exact (of_decide_eq_true this.symm).symm
        | _ => cases this
  | _ => simp [fine] at hf

def fd50 : FuncData := ⟨(Str.ofString "in_table_c6"), (Str.ofString "in_table_c6"), fParams (st 4), .stmts (fBody (st 4)), fScope (st 4), 3, [], .none, .none, .none, .str (Str.ofString "cpy313.stringprep") 289, none, .ref 49, .none, 0⟩
theorem cd50 {w : World} {h : Heap} (B : Base w h) : ∃ o, h.get? 50 = some o ∧ o.data = .func fd50 ∧ h.CodeRec (.ref 49) (Str.ofString "in_table_c6") :=
  ⟨_, B.k 50 _ rfl, rfl, 49, _, _, _, rfl, B.k 49 _ rfl, rfl, rfl⟩
def fd62 : FuncData := ⟨(Str.ofString "in_table_c7"), (Str.ofString "in_table_c7"), fParams (st 6), .stmts (fBody (st 6)), fScope (st 6), 3, [], .none, .none, .none, .str (Str.ofString "cpy313.stringprep") 289, none, .ref 61, .none, 0⟩
theorem cd62 {w : World} {h : Heap} (B : Base w h) : ∃ o, h.get? 62 = some o ∧ o.data = .func fd62 ∧ h.CodeRec (.ref 61) (Str.ofString "in_table_c7") :=
  ⟨_, B.k 62 _ rfl, rfl, 61, _, _, _, rfl, B.k 61 _ rfl, rfl, rfl⟩
def fd80 : FuncData := ⟨(Str.ofString "in_table_c9"), (Str.ofString "in_table_c9"), fParams (st 8), .stmts (fBody (st 8)), fScope (st 8), 3, [], .none, .none, .none, .str (Str.ofString "cpy313.stringprep") 289, none, .ref 79, .none, 0⟩
theorem cd80 {w : World} {h : Heap} (B : Base w h) : ∃ o, h.get? 80 = some o ∧ o.data = .func fd80 ∧ h.CodeRec (.ref 79) (Str.ofString "in_table_c9") :=
  ⟨_, B.k 80 _ rfl, rfl, 79, _, _, _, rfl, B.k 79 _ rfl, rfl, rfl⟩

def in6 (c : Nat) : Bool := decide (65529 ≤ c ∧ c < 65534)
def in7 (c : Nat) : Bool := decide (12272 ≤ c ∧ c < 12284)
def in9 (c : Nat) : Bool := decide (c = 917505 ∨ (917536 ≤ c ∧ c < 917632))
def keys6 : List Int := (List.range 5).map fun i => ((65529 + i : Nat) : Int)
def keys7 : List Int := (List.range 12).map fun i => ((12272 + i : Nat) : Int)
def keys9 : List Int := 917505 :: (List.range 96).map fun i => ((917536 + i : Nat) : Int)
theorem has6 (c : Nat) : keys6.contains (c : Int) = in6 c := by
  rw [Bool.eq_iff_iff, List.contains_iff_mem]; simp only [keys6, in6, List.mem_map, List.mem_range, decide_eq_true_eq]
  constructor
  · rintro ⟨i, hi, e⟩; omega
  · intro h; exact ⟨c - 65529, by omega, by omega⟩
theorem has7 (c : Nat) : keys7.contains (c : Int) = in7 c := by
  rw [Bool.eq_iff_iff, List.contains_iff_mem]; simp only [keys7, in7, List.mem_map, List.mem_range, decide_eq_true_eq]
  constructor
  · rintro ⟨i, hi, e⟩; omega
  · intro h; exact ⟨c - 12272, by omega, by omega⟩
theorem has9 (c : Nat) : keys9.contains (c : Int) = in9 c := by
  rw [Bool.eq_iff_iff, List.contains_iff_mem]; simp only [keys9, in9, List.mem_cons, List.mem_map, List.mem_range, decide_eq_true_eq]
  constructor
  · rintro (e | ⟨i, hi, e⟩) <;> omega
  · intro h
    rcases h with e | h
    · left; omega
    · right; exact ⟨c - 917536, by omega, by omega⟩

theorem c6_spec {w : World} {A : Around} {E : Value → Shared → Prop} {s : Shared} {Q : Value → Shared → Prop} {c : Nat} {t : Tok} (B : Base w s.heap) (hA : A.depth < 900)
    (h : ∀ s', Sm s s' → Ext s.heap s'.heap → Q (.bool (in6 c)) s') : wpAny (model P0 w) A (call (.ref 50) [.str ⟨#[c]⟩ t] []) Q E s := by
  obtain ⟨o, ho, hdat, hcd⟩ := cd50 B
  refine enterF (fd := fd50) (binds := [(Str.ofString "code", .str ⟨#[c]⟩ t)]) B (by unfold recursionLimit; omega) ho hdat hcd rfl (BindsTo.of_eq rfl) rfl (fun n => rfl) (by decide +kernel) fun s₁ M₁ F₁ => ?_
  have B₁ : Base w s₁.heap := B.ext F₁.keep
  refine wpAny_execs_cons (wpAny_Return_some (wpAny_Compare1 (callB1 (id := "ord") (fun Q' q => nmB B₁ (by kernel_rfl) (by decide +kernel) q rfl (by kernel_rfl) rfl rfl) (nmF F₁ rfl (P.ord_of_char ?_) (by kernel_rfl)))))
  obtain ⟨n, hS⟩ := setOf_fine (w := w) (a := 40) (B₁.k 40 _ rfl) ⟨rfl, rfl, rfl⟩ (by kernel_rfl)
  refine nmG (s := { s₁ with toks := _ }) B₁ (r := .ref 40) (by kernel_rfl) ?_ rfl (by kernel_rfl) rfl
  refine wpAny_inSet_of (intKind_is P0 w _ _) rfl hS ?_
  rw [show keysOf _ = keys6 by kernel_rfl, has6]
  exact h _ ⟨M₁.gens, M₁.os⟩ F₁.keep
theorem c7_spec {w : World} {A : Around} {E : Value → Shared → Prop} {s : Shared} {Q : Value → Shared → Prop} {c : Nat} {t : Tok} (B : Base w s.heap) (hA : A.depth < 900)
    (h : ∀ s', Sm s s' → Ext s.heap s'.heap → Q (.bool (in7 c)) s') : wpAny (model P0 w) A (call (.ref 62) [.str ⟨#[c]⟩ t] []) Q E s := by
  obtain ⟨o, ho, hdat, hcd⟩ := cd62 B
  refine enterF (fd := fd62) (binds := [(Str.ofString "code", .str ⟨#[c]⟩ t)]) B (by unfold recursionLimit; omega) ho hdat hcd rfl (BindsTo.of_eq rfl) rfl (fun n => rfl) (by decide +kernel) fun s₁ M₁ F₁ => ?_
  have B₁ : Base w s₁.heap := B.ext F₁.keep
  refine wpAny_execs_cons (wpAny_Return_some (wpAny_Compare1 (callB1 (id := "ord") (fun Q' q => nmB B₁ (by kernel_rfl) (by decide +kernel) q rfl (by kernel_rfl) rfl rfl) (nmF F₁ rfl (P.ord_of_char ?_) (by kernel_rfl)))))
  obtain ⟨n, hS⟩ := setOf_fine (w := w) (a := 52) (B₁.k 52 _ rfl) ⟨rfl, rfl, rfl⟩ (by kernel_rfl)
  refine nmG (s := { s₁ with toks := _ }) B₁ (r := .ref 52) (by kernel_rfl) ?_ rfl (by kernel_rfl) rfl
  refine wpAny_inSet_of (intKind_is P0 w _ _) rfl hS ?_
  rw [show keysOf _ = keys7 by kernel_rfl, has7]
  exact h _ ⟨M₁.gens, M₁.os⟩ F₁.keep
theorem c9_spec {w : World} {A : Around} {E : Value → Shared → Prop} {s : Shared} {Q : Value → Shared → Prop} {c : Nat} {t : Tok} (B : Base w s.heap) (hA : A.depth < 900)
    (h : ∀ s', Sm s s' → Ext s.heap s'.heap → Q (.bool (in9 c)) s') : wpAny (model P0 w) A (call (.ref 80) [.str ⟨#[c]⟩ t] []) Q E s := by
  obtain ⟨o, ho, hdat, hcd⟩ := cd80 B
  refine enterF (fd := fd80) (binds := [(Str.ofString "code", .str ⟨#[c]⟩ t)]) B (by unfold recursionLimit; omega) ho hdat hcd rfl (BindsTo.of_eq rfl) rfl (fun n => rfl) (by decide +kernel) fun s₁ M₁ F₁ => ?_
  have B₁ : Base w s₁.heap := B.ext F₁.keep
  refine wpAny_execs_cons (wpAny_Return_some (wpAny_Compare1 (callB1 (id := "ord") (fun Q' q => nmB B₁ (by kernel_rfl) (by decide +kernel) q rfl (by kernel_rfl) rfl rfl) (nmF F₁ rfl (P.ord_of_char ?_) (by kernel_rfl)))))
  obtain ⟨n, hS⟩ := setOf_fine (w := w) (a := 70) (B₁.k 70 _ rfl) ⟨rfl, rfl, rfl⟩ (by kernel_rfl)
  refine nmG (s := { s₁ with toks := _ }) B₁ (r := .ref 70) (by kernel_rfl) ?_ rfl (by kernel_rfl) rfl
  refine wpAny_inSet_of (intKind_is P0 w _ _) rfl hS ?_
  rw [show keysOf _ = keys9 by kernel_rfl, has9]
  exact h _ ⟨M₁.gens, M₁.os⟩ F₁.keep
end Zd

namespace Zd
open PySem PySem.W PyProof.Rows PySem.Calls

section
variable {w : World} {A : Around} {E : Value → Shared → Prop} {s : Shared} {env : Env} {h₀ : Heap} {v : Str → Option Value}

theorem modI {a b : Int} {t u : Tok} {Q : Value → Shared → Prop} (hb : 0 < b) (h : ∀ t' k, Q (.int (a % b) t') { s with toks := k }) : wpAny (model P0 w) A (binaryOp .Mod (.int a t) (.int b u)) Q E s := by
  refine AutoIntOps.mod_1 (by rw [beq_iff_eq]; omega) ?_
  rw [Int.fmod_eq_emod_of_nonneg _ (Int.le_of_lt hb)]
  exact h _ _
theorem fdivI {a b : Int} {t u : Tok} {Q : Value → Shared → Prop} (hb : 0 < b) (hb2 : b < 1000000) (h : ∀ t' k, Q (.int (a / b) t') { s with toks := k }) : wpAny (model P0 w) A (binaryOp .FloorDiv (.int a t) (.int b u)) Q E s := by
  refine AutoIntOps.floordiv_1 (by rw [beq_iff_eq]; omega) (by rw [PyProof.noPylong_small (by omega)]; exact Bool.false_ne_true) ?_
  rw [Int.fdiv_eq_ediv_of_nonneg _ (Int.le_of_lt hb)]
  exact h _ _
theorem addI {a b : Int} {t u : Tok} {Q : Value → Shared → Prop} (h : ∀ t' k, Q (.int (a + b) t') { s with toks := k }) : wpAny (model P0 w) A (binaryOp .Add (.int a t) (.int b u)) Q E s := add_int (h _ _)

/-- o[i] -/
theorem SubX {value slice : Expr} {pos : Pos} {Q : Value → Shared → Prop}
    (h : wpAny (model P0 w) A (eval value env) (fun o s₁ => wpAny (model P0 w) A (eval slice env) (fun i s₂ => SubscriptOn (model P0 w) A o i Q E s₂) E s₁) E s)
    (hs : ∀ o i, subscripted slice false o i = operate [o, i] (getItem o i) := by intro _ _; with_unfolding_all rfl) : wpAny (model P0 w) A (eval (.Subscript value slice pos) env) Q E s := by
  refine Subscript_ (wpAny_mono h (fun o s₁ h₁ => wpAny_mono h₁ (fun i s₂ h₂ => ?_) fun _ _ e => e) fun _ _ e => e)
  obtain ⟨T, id, hl, hT, hg⟩ := h₂
  unfold subscriptTail
  refine wpAny_bind ?_
  rw [getitemInPython_of_ne hT.not_modules]
  refine wpAny_bind (wpAny_specialOf hT hl ?_)
  have fin : wpAny (model P0 w) A (subscripted slice false o i) (fun r s₃ => wpAny (model P0 w) A (letTemporaryGo value o r >>= fun _ => pure r) Q E s₃) E s₂ := by
    rw [hs]
    exact wpAny_operating (wpAny_mono hg (fun r s₃ h₃ => wpAny_bind (wpAny_letTemporaryGo (wpAny_pure h₃))) fun _ _ x => x)
  first
    | exact wpAny_pure (wpAny_bind fin)
    | exact wpAny_bind (wpAny_pure (wpAny_bind fin))
    | exact wpAny_bind fin
theorem onList {l : Addr} {items : Array Value} {k : Nat} {t : Tok} {x : Value} {Q : Value → Shared → Prop} (hl : s.heap.IsList l items) (hk : k < 1000000) (hx : items[k]? = some x) (h : Q x s) : SubscriptOn (model P0 w) A (.ref l) (.int k t) Q E s :=
  ⟨"list", _, slot_list_getitem.lookup, hl.typeIs, wpAny_getItem_list hl (by omega) (by omega) (by simpa using hx) h⟩
theorem onListI {l : Addr} {items : Array Value} {k : Int} {t : Tok} {x : Value} {Q : Value → Shared → Prop} (hl : s.heap.IsList l items) (h0 : 0 ≤ k) (hk : k < 1000000) (hx : items[k.toNat]? = some x) (h : Q x s) : SubscriptOn (model P0 w) A (.ref l) (.int k t) Q E s :=
  ⟨"list", _, slot_list_getitem.lookup, hl.typeIs, wpAny_getItem_list hl h0 (by omega) hx h⟩
theorem onStr {x : Str} {k : Int} {t u : Tok} {c : Nat} {Q : Value → Shared → Prop} (h0 : 0 ≤ k) (hk : k < 1000000) (hc : x.cps[k.toNat]? = some c) (h : ∀ t' n, Q (.str ⟨#[c]⟩ t') { s with toks := n }) : SubscriptOn (model P0 w) A (.str x u) (.int k t) Q E s :=
  ⟨"str", _, slot_str_getitem.lookup, typeIs_str s x u, getItem_str (by simp; omega) (by
    have hlt : k.toNat < x.cps.size := (Array.getElem?_eq_some_iff.mp hc).1
    have : seqIndex? k x.length = some k.toNat := by
      unfold seqIndex?
      have h1 : ¬ k < 0 := by omega
      have h2 : k < (x.length : Int) := by show k < (x.cps.size : Int); omega
      simp [h1, h0, h2]
    rw [this]; exact hc) (h _ _)⟩
end

theorem spliced_ints {w : World} {A : Around} {E : Value → Shared → Prop} {env : Env} {pos : Pos} : ∀ (ns : List (Int × Nat × Pos)) {s : Shared} {Q : List Value → Shared → Prop}, (∀ s' vs, Sm s s' → s'.heap = s.heap → IntsAre vs (ns.map (·.1)) → Q vs s') →
    wpAny (model P0 w) A (spliced (backTo pos (starEach (ns.map fun x => .Constant (.int x.1) x.2.1 x.2.2) env))) Q E s
  | [], s, Q, h => spliced_nil (h s [] ⟨rfl, rfl⟩ rfl .nil)
  | x :: r, s, Q, h => spliced_cons (wpAny_Constant_int (k := x.2.1) (pos := x.2.2) (spliced_ints r fun s' vs M e a => h s' _ ⟨M.gens, M.os⟩ e (.cons _ _ a)))
theorem intsAre_len : ∀ {vs : List Value} {ns : List Int}, IntsAre vs ns → vs.length = ns.length
  | _, _, .nil => rfl
  | _, _, .cons _ _ h => by simp [intsAre_len h]
theorem intsAre_at : ∀ {vs : List Value} {ns : List Int}, IntsAre vs ns → ∀ {i : Nat} {n : Int}, ns[i]? = some n → ∃ t, vs[i]? = some (.int n t)
  | _, _, .nil, i, n, e => by simp at e
  | _, _, .cons m t h, 0, n, e => by
    simp only [List.getElem?_cons_zero, Option.some.injEq] at e
    subst e; exact ⟨t, rfl⟩
  | _, _, .cons m t h, i + 1, n, e => by simpa using intsAre_at h (i := i) (by simpa using e)
theorem intsAre_val : ∀ {vs : List Value} {ns : List Int}, IntsAre vs ns → ∀ {i : Nat} {v : Value}, vs[i]? = some v → ∃ n t, ns[i]? = some n ∧ v = .int n t
  | _, _, .nil, i, n, e => by simp at e
  | _, _, .cons m t h, 0, v, e => by
    simp only [List.getElem?_cons_zero, Option.some.injEq] at e
    subst e; exact ⟨m, t, rfl, rfl⟩
  | _, _, .cons m t h, i + 1, n, e => by simpa using intsAre_val h (i := i) (by simpa using e)
/-- a display of ints -/
theorem List_ints {w : World} {A : Around} {E : Value → Shared → Prop} {s : Shared} {env : Env} {pos : Pos} {Q : Value → Shared → Prop} (ns : List (Int × Nat × Pos)) (hz : ns.length ≤ 1000)
    (h : ∀ s' vs, Sm s s' → s'.heap = s.heap.push { cls := .type "list", data := .seq vs.toArray } → IntsAre vs (ns.map (·.1)) → Q (.ref s.heap.objs.size) s') :
    wpAny (model P0 w) A (eval (.List (ns.map fun x => .Constant (.int x.1) x.2.1 x.2.2) pos) env) Q E s :=
  wpAny_List_spliced (spliced_ints ns fun s' vs M e a => ⟨by rw [intsAre_len a, List.length_map, sizeLine_eq]; omega, by rw [e]; exact h _ vs ⟨M.gens, M.os⟩ rfl a⟩)

def fd249 : FuncData := ⟨(Str.ofString "_law_sign"), (Str.ofString "_law_sign"), fParams (st 19), .stmts (fBody (st 19)), fScope (st 19), 3, [], .none, .none, .none, .str (Str.ofString "law_zd0012_01") 839, none, .ref 248, .none, 0⟩
theorem cd249 {w : World} {h : Heap} (B : Base w h) : ∃ o, h.get? 249 = some o ∧ o.data = .func fd249 ∧ h.CodeRec (.ref 248) (Str.ofString "_law_sign") :=
  ⟨_, B.k 249 _ rfl, rfl, 248, _, _, _, rfl, B.k 248 _ rfl, rfl, rfl⟩
def beside : List Int := [65528, 65534, 12271, 12284, 917504, 917506, 917535, 917632]
def signCode (x : Int) : Nat :=
  let kind := x % 4
  let which := x / 4
  if kind = 0 then (65529 + which % 5).toNat else if kind = 1 then (12272 + which % 12).toNat else if kind = 2 then (if which % 97 = 0 then 917505 else (917535 + which % 97).toNat) else (beside.getD (which % 8).toNat 0).toNat

theorem callBuiltinInt_chr {w : World} {A : Around} {E : Value → Shared → Prop} {s : Shared} {i : Int} {t : Tok} {Q : Value → Shared → Prop} (h0 : 0 ≤ i) (h1 : i ≤ 1000000) (h : ∀ t' n, Q (.str ⟨#[i.toNat]⟩ t') { s with toks := n }) :
    wpAny (model P0 w) A (call (.builtin "chr") [.int i t] []) Q E s := P.chr_of_int (by simp; omega) (h _ _)

theorem sign_spec {w : World} {A : Around} {E : Value → Shared → Prop} {s : Shared} {Q : Value → Shared → Prop} {x : Int} {t : Tok} (B : Base w s.heap) (hA : A.depth < 900)
    (h : ∀ s' t, Sm s s' → Ext s.heap s'.heap → Q (.str ⟨#[signCode x]⟩ t) s') : wpAny (model P0 w) A (call (.ref 249) [.int x t] []) Q E s := by
  obtain ⟨o, ho, hdat, hcd⟩ := cd249 B
  refine enterF (fd := fd249) (binds := [(Str.ofString "x", .int x t)]) B (by unfold recursionLimit; omega) ho hdat hcd rfl (BindsTo.of_eq rfl) rfl (fun n => rfl) (by decide +kernel) fun s₁ M₁ F₁ => ?_
  refine wpAny_execs_cons (wpAny_Assign_Name (wpAny_BinOp (nmF F₁ rfl (wpAny_Constant_int (modI (by decide) fun t2 k2 => ?_)) (by kernel_rfl))))
  refine stF (s := { s₁ with toks := k2 }) F₁ (by kernel_rfl) fun s₂ M₂ F₂ _ => ?_
  refine wpAny_execs_cons (wpAny_Assign_Name (wpAny_BinOp (nmF F₂ rfl (wpAny_Constant_int (fdivI (by decide) (by decide) fun t3 k3 => ?_)) (by kernel_rfl))))
  refine stF (s := { s₂ with toks := k3 }) F₂ (by kernel_rfl) fun s₃ M₃ F₃ _ => ?_
  have M : Sm s s₃ := ⟨M₃.gens.trans (M₂.gens.trans M₁.gens), M₃.os.trans (M₂.os.trans M₁.os)⟩
  have B₃ := B.ext F₃.keep
  have hk : (fun y => if y = Str.ofString "which" then some (Value.int (x / 4) t3) else if y = Str.ofString "kind" then some (.int (x % 4) t2) else ([(Str.ofString "x", Value.int x t)].reverse.lookup y)) (Str.ofString "kind") = some (.int (x % 4) t2) := by
    show (if _ then _ else _) = _
    rw [if_neg (by decide), if_pos rfl]
  have hw : (fun y => if y = Str.ofString "which" then some (Value.int (x / 4) t3) else if y = Str.ofString "kind" then some (.int (x % 4) t2) else ([(Str.ofString "x", Value.int x t)].reverse.lookup y)) (Str.ofString "which") = some (.int (x / 4) t3) := if_pos rfl
  generalize (fun y => if y = Str.ofString "which" then some (Value.int (x / 4) t3) else if y = Str.ofString "kind" then some (.int (x % 4) t2) else ([(Str.ofString "x", Value.int x t)].reverse.lookup y)) = v at F₃ hk hw
  have out : ∀ (i : Int) (tk : Nat), 0 ≤ i → i ≤ 1000000 → i.toNat = signCode x → ∀ u, wpAny (model P0 w) (A.deeper (callEnvC fd249 s.heap.objs.size 249)) (call (.builtin "chr") [.int i u] [])
      (fun a s₅ => Q a s₅) (fun _ _ => False) { s₃ with toks := tk } := fun i tk h0 h1 e u => callBuiltinInt_chr h0 h1 fun t' n => e ▸ h _ _ ⟨M.gens, M.os⟩ F₃.keep
  have hchr : ∀ {Q' : Value → Shared → Prop} {tk : Nat}, Q' (.builtin "chr") { s₃ with toks := tk } → ∀ p, wpAny (model P0 w) (A.deeper (callEnvC fd249 s.heap.objs.size 249)) (eval (.Name (Str.ofString "chr") p) (callEnvC fd249 s.heap.objs.size 249)) Q' (fun _ _ => False) { s₃ with toks := tk } :=
    fun q p => nmB (s := { s₃ with toks := _ }) B₃ (by kernel_rfl) (by decide +kernel) q rfl (by kernel_rfl) rfl rfl
  refine wpAny_execs_cons (wpAny_If (wpAny_isTrue_Compare1 (nmF F₃ hk (wpAny_Constant_int (eq_int (wpAny_truthy_bool ?_))) (by kernel_rfl))))
  by_cases h0 : x % 4 = 0
  · rw [if_pos (by simpa using h0)]
    refine wpAny_execs_cons (wpAny_Return_some (callB1 (fun Q' q => hchr q _) (wpAny_BinOp (wpAny_Constant_int (wpAny_BinOp (nmF F₃ hw (wpAny_Constant_int (modI (by decide) fun t4 k4 => addI fun t5 k5 => ?_)) (by kernel_rfl)))))))
    exact out _ _ (by omega) (by omega) (by simp [signCode, h0]) _
  rw [if_neg (by simpa using h0)]
  refine wpAny_execs_nil (wpAny_execs_cons (wpAny_If (wpAny_isTrue_Compare1 (nmF F₃ hk (wpAny_Constant_int (eq_int (wpAny_truthy_bool ?_))) (by kernel_rfl)))))
  by_cases h1 : x % 4 = 1
  · rw [if_pos (by simpa using h1)]
    refine wpAny_execs_cons (wpAny_Return_some (callB1 (fun Q' q => hchr q _) (wpAny_BinOp (wpAny_Constant_int (wpAny_BinOp (nmF F₃ hw (wpAny_Constant_int (modI (by decide) fun t4 k4 => addI fun t5 k5 => ?_)) (by kernel_rfl)))))))
    exact out _ _ (by omega) (by omega) (by simp [signCode, h1]) _
  rw [if_neg (by simpa using h1)]
  refine wpAny_execs_nil (wpAny_execs_cons (wpAny_If (wpAny_isTrue_Compare1 (nmF F₃ hk (wpAny_Constant_int (eq_int (wpAny_truthy_bool ?_))) (by kernel_rfl)))))
  by_cases h2 : x % 4 = 2
  · rw [if_pos (by simpa using h2)]
    refine wpAny_execs_cons (wpAny_If (wpAny_isTrue_Compare1 (wpAny_BinOp (nmF F₃ hw (wpAny_Constant_int (modI (by decide) fun t4 k4 => wpAny_Constant_int (eq_int (wpAny_truthy_bool ?_)))) (by kernel_rfl)))))
    by_cases h3 : x / 4 % 97 = 0
    · rw [if_pos (by simpa using h3)]
      exact wpAny_execs_cons (wpAny_Return_some (callB1 (fun Q' q => hchr q _) (wpAny_Constant_int (out _ _ (by omega) (by omega) (by simp [signCode, h2, h3]) _))))
    rw [if_neg (by simpa using h3)]
    refine wpAny_execs_nil (wpAny_execs_cons (wpAny_Return_some (callB1 (fun Q' q => hchr q _) (wpAny_BinOp (wpAny_Constant_int (wpAny_BinOp (nmF F₃ hw (wpAny_Constant_int (modI (by decide) fun t4 k4 => addI fun t5 k5 => ?_)) (by kernel_rfl))))))))
    exact out _ _ (by omega) (by omega) (by simp [signCode, h2, h3]) _
  rw [if_neg (by simpa using h2)]
  refine wpAny_execs_nil (wpAny_execs_cons (wpAny_Return_some (callB1 (fun Q' q => hchr q _) (SubX ?_))))
  refine List_ints [(65528, _, _), (65534, _, _), (12271, _, _), (12284, _, _), (917504, _, _), (917506, _, _), (917535, _, _), (917632, _, _)] (by decide) fun s₄ vs M₄ e₄ a => ?_
  have F₄ := F₃.ext (h' := s₄.heap) (by rw [e₄]; exact Ext.push' _ _)
  refine wpAny_BinOp (nmF F₄ hw (wpAny_Constant_int (modI (by decide) fun t4 k4 => ?_)) (by kernel_rfl))
  have hl : s₄.heap.PlainList s₃.heap.objs.size vs.toArray := by rw [e₄]; exact ⟨_, Heap.get?_push_size _ rfl⟩
  have hi : (x / 4 % 8).toNat < 8 := by omega
  obtain ⟨tb, hb⟩ := intsAre_at a (i := (x / 4 % 8).toNat) (n := beside.getD (x / 4 % 8).toNat 0) (by
    show beside[(x / 4 % 8).toNat]? = _
    rw [List.getD_eq_getElem?_getD, List.getElem?_eq_getElem (show _ < beside.length from hi)]; rfl)
  refine onListI (s := { s₄ with toks := k4 }) (x := .int (beside.getD (x / 4 % 8).toNat 0) tb) hl.isList (by omega) (by omega) (by simpa using hb) ?_
  have hbb : 0 ≤ beside.getD (x / 4 % 8).toNat 0 ∧ beside.getD (x / 4 % 8).toNat 0 ≤ 1000000 := by
    have : ∀ i, i < 8 → 0 ≤ beside.getD i 0 ∧ beside.getD i 0 ≤ 1000000 := by decide
    exact this _ hi
  refine callBuiltinInt_chr (s := { s₄ with toks := k4 }) hbb.1 hbb.2 fun t' n => ?_
  have e5 : (beside.getD (x / 4 % 8).toNat 0).toNat = signCode x := by simp [signCode, h0, h1, h2]
  rw [e5]
  exact h _ _ ⟨M₄.gens.trans M.gens, M₄.os.trans M.os⟩ F₄.keep
end Zd

namespace Zd
open PySem PySem.W PyProof.Rows PySem.Calls

theorem pa_pat : PlainAttrs "re.Pattern" :=
  ⟨⟨"object.__getattribute__", by rw [typeLookup_type, builtinLookup_eq_fast]; kernel_rfl, by decide +kernel⟩, by rw [typeLookup_type, builtinLookup_eq_fast]; kernel_rfl⟩
theorem slot_pat : Slot "re.Pattern" "search" "re.Pattern.search" :=
  .of (owner := "re.Pattern") (n := "search") (by rw [typeLookup_type, builtinLookup_eq_fast]; kernel_rfl) (by decide +kernel) (by decide +kernel) (by decide +kernel)
    (by first | exact .inl (by decide +kernel) | exact .inr (by decide +kernel)) (by rw [isSubtype_type]; kernel_rfl)
theorem type_pat : typeOf (.builtin "re.Pattern.search") = pure (.type "method_descriptor") := by show builtinType _ = _; rw [builtinType_eq_fast]; kernel_rfl
theorem entry_pat : entryFor table "re.Pattern.search" = some Builtin.«re.Pattern.search» := entryFor_of_tree (by kernel_rfl)
theorem args_pat (a b : Value) : argsOk "re.Pattern.search" ⟨[a, b], []⟩ := by unfold argsOk; kernel_rfl

def driveF : Nat → Sre.M → Option Sre.M
  | 0, _ => none
  | n + 1, m => let m := m.runFor Builtin.Re.reTurnSteps; if m.outcome.isSome then some m else driveF n m

section
variable {w : World} {A : Around} {E : Value → Shared → Prop} {s : Shared}
theorem drive_of {m' : Sre.M} {Q : Sre.M → Shared → Prop} (h : Q m' s) : ∀ (k n : Nat) (m : Sre.M), k ≤ n → driveF k m = some m' → wpAny (model P0 w) A (Builtin.Re.reDrive n m) Q E s
  | 0, _, _, _, e => by cases e
  | k + 1, 0, _, hk, _ => by omega
  | k + 1, n + 1, m, hk, e => by
    unfold Builtin.Re.reDrive
    unfold driveF at e
    dsimp only at e ⊢
    cases hi : (m.runFor Builtin.Re.reTurnSteps).outcome.isSome with
    | true =>
      rw [hi] at e
      simp only [if_true] at e ⊢
      cases e
      exact wpAny_pure h
    | false =>
      rw [hi] at e
      simp only [Bool.false_eq_true, if_false] at e ⊢
      exact wpAny_bind (wpAny_rule (drive_of h k n _ (by omega) e))
theorem rules_all {f : Nat → Bool} {g : Nat → String} {Q : PUnit → Shared → Prop} (h : Q ⟨⟩ s) : ∀ (l : List Nat), wpAny (model P0 w) A (forIn l PUnit.unit fun i _ => do
    if f i then rule (g i)
    pure (ForInStep.yield PUnit.unit)) Q E s
  | [] => wpAny_pure h
  | i :: r => by
    rw [List.forIn_cons]
    refine wpAny_bind ?_
    cases f i with
    | true => exact wpAny_bind (wpAny_rule (wpAny_pure (rules_all h r)))
    | false => exact wpAny_pure (rules_all h r)
def failsOn (codes text : Array Nat) : Bool := ((driveF 200 (Sre.forSearch codes text 0 0 text.size false)).map (fun m => match m.outcome with | some .failed => true | _ => false)) == some true
theorem run_fails {codes text : Array Nat} (hf : failsOn codes text = true) {Q : Option Sre.M → Shared → Prop} (h : Q none s) : wpAny (model P0 w) A (Builtin.Re.reRunToEnd (Sre.forSearch codes text 0 0 text.size false)) Q E s := by
  unfold failsOn at hf
  cases e : driveF 200 (Sre.forSearch codes text 0 0 text.size false) with
  | none => rw [e] at hf; cases hf
  | some m =>
    rw [e] at hf
    unfold Builtin.Re.reRunToEnd
    refine wpAny_bind (drive_of (m' := m) ?_ 200 _ _ (by decide) e)
    refine wpAny_bind (rules_all ?_ _)
    have hf : (match m.outcome with | some .failed => true | _ => false) = true := by simpa using hf
    cases ho : m.outcome with
    | none => rw [ho] at hf; cases hf
    | some o =>
      cases o with
      | failed => exact wpAny_pure h
      | _ => rw [ho] at hf; cases hf
end
end Zd

namespace Zd
open PySem PySem.W PyProof.Rows PySem.Calls

section
variable {w : World} {A : Around} {E : Value → Shared → Prop} {s : Shared}
theorem named_one (v : Value) : Builtin.Re.reNamed "re.Pattern.search" "search" ["string", "pos", "endpos"] 1 [v] [] = pure [some v, none, none] := by kernel_rfl

theorem pat_search {a cd : Addr} {p : Str} {tp tq : Tok} {vals : Array Value} {x : Str} {t : Tok} {o : Obj} {Q : Value → Shared → Prop} (ho : s.heap.get? a = some o) (ht : o.cls = .type "re.Pattern") (hd : o.data = .fields #[.str p tp, .int 32 tq, .int 0 0, .none, .none, .ref cd, .int 0 0])
    (hc : s.heap.IsTuple cd vals) (hsz : x.cps.size < 1000) (hf : failsOn ((vals.map Builtin.Re.reRawOf).map (·.toNat)) x.cps = true) (h : Q .none s) :
    wpAny (model P0 w) A (call (.builtin "re.Pattern.search") [.ref a, .str x t] []) Q E s := by
  refine wpAny_call_entry slot_pat ⟨_, ho, ht⟩ entry_pat ?_ (args_pat _ _)
  unfold Builtin.«re.Pattern.search» Builtin.Re.reTarget
  simp only [named_one]
  refine wpAny_bind (wpAny_bind (wpAny_pure ?_))
  dsimp only
  refine wpAny_bind (wpAny_pure (wpAny_bind (wpAny_pure (wpAny_bind (wpAny_fieldsOf ho hd ?_)))))
  refine wpAny_bind (wpAny_bind (wpAny_pure ?_))
  refine wpAny_pure ?_
  show wpAny _ _ (Builtin.Re.reNoCollectionInside (.str x t) 0 >>= fun _ => Builtin.Re.reRawItems (.ref cd) >>= fun q => pure (⟨.ref a, .str x t, q.map (·.toNat), x.cps, 0, 0, min (Int.toNat 0) x.cps.size, min (2 ^ 63 - 1 : Int).toNat x.cps.size⟩ : Builtin.Re.ReTarget)) _ _ _
  have hlim : min (2 ^ 63 - 1 : Int).toNat x.cps.size = x.cps.size := Nat.min_eq_right (by
    have : (2 ^ 63 - 1 : Int).toNat = 9223372036854775807 := by decide +kernel
    omega)
  have hpos : min (Int.toNat 0) x.cps.size = 0 := Nat.zero_min _
  rw [hlim, hpos]
  refine wpAny_bind (wpAny_pure (wpAny_bind ?_))
  obtain ⟨oc, hoc, _, nc, hdc⟩ := hc
  unfold Builtin.Re.reRawItems
  refine wpAny_bind (wpAny_seqItems hoc hdc (wpAny_pure (wpAny_pure ?_)))
  dsimp only [Option.getD]
  unfold Builtin.Re.reAnswer
  exact wpAny_bind (run_fails hf (wpAny_pure ⟨_, rfl, h⟩))
end
end Zd

namespace Zd
open PySem PySem.W PyProof.Rows PySem.Calls

def fd139 : FuncData := ⟨(Str.ofString "_convert_string_type"), (Str.ofString "Headers._convert_string_type"), fParams (cst 1), .stmts (fBody (cst 1)), fScope (cst 1), 3, [], .none, .none, .none, .str (Str.ofString "cpy313.wsgiref.headers") 576, none, .ref 138, .none, 0⟩
theorem cd139 {w : World} {h : Heap} (B : Base w h) : ∃ o, h.get? 139 = some o ∧ o.data = .func fd139 ∧ h.CodeRec (.ref 138) (Str.ofString "Headers._convert_string_type") :=
  ⟨_, B.k 139 _ rfl, rfl, 138, _, _, _, rfl, B.k 138 _ rfl, rfl, rfl⟩
def codesN : Array Nat := #[14, 10, 4, 1, 1, 22, 0, 31, 16, 127, 0, 13, 7, 22, 0, 31, 16, 127, 0, 1]
def codesV : Array Nat := #[14, 14, 4, 1, 1, 9, 4294966783, 0, 0, 2147483648, 0, 0, 0, 0, 0, 13, 11, 9, 4294966783, 0, 0, 2147483648, 0, 0, 0, 0, 0, 1]

theorem conv_spec {w : World} {A : Around} {E : Value → Shared → Prop} {s : Shared} {Q : Value → Shared → Prop} {self : Value} {x : Str} {t : Tok} {b : Bool} (B : Base w s.heap) (hA : A.depth < 900)
    (hf : failsOn (if b then codesN else codesV) x.cps = true) (hx : x.cps.size < 1000)
    (h : ∀ s', Sm s s' → Ext s.heap s'.heap → Q (.str x t) s') : wpAny (model P0 w) A (call (.ref 139) [self, .str x t] [(Str.ofString "name", .bool b)]) Q E s := by
  obtain ⟨o, ho, hdat, hcd⟩ := cd139 B
  refine enterF (fd := fd139) (binds := [(Str.ofString "self", self), (Str.ofString "value", .str x t), (Str.ofString "name", .bool b)]) B (by unfold recursionLimit; omega) ho hdat hcd rfl (BindsTo.of_eq rfl) rfl (fun n => rfl) (by decide +kernel) fun s₁ M₁ F₁ => ?_
  have B₁ : Base w s₁.heap := B.ext F₁.keep
  refine wpAny_execs_cons (wpAny_If (wpAny_isTrue_Compare1 (callT1 (T := "type") (fun Q' q => nmB B₁ (by kernel_rfl) (by decide +kernel) q rfl (by kernel_rfl) rfl rfl) (nmF F₁ rfl (call_type_of (typeIs_str _ _ _) (by decide) ?_) (by kernel_rfl)))))
  refine nmB B₁ (by kernel_rfl) (r := .type "str") (by decide +kernel) (wpAny_is_self rfl (wpAny_truthy_bool ?_)) rfl (by kernel_rfl) rfl rfl
  simp only [if_true]
  refine wpAny_execs_cons (wpAny_Assign_Name (wpAny_IfExp (isTrue_plain (nmF F₁ rfl (wpAny_truthy_bool ?_) (by kernel_rfl)))))
  have hsearch : ∀ {s₂ : Shared} {a cd : Addr} {codes : Array Nat} {vals : Array Value} {p : Str} {tp tq : Tok} {ob : Obj} {v : Str → Option Value}, Sm s s₂ → FF (callEnvC fd139 s.heap.objs.size 139) s.heap v s₂.heap → v (Str.ofString "regex") = some (.ref a) → v (Str.ofString "value") = some (.str x t) →
      s₂.heap.get? a = some ob → ob.cls = .type "re.Pattern" → ob.dict = none → ob.data = .fields #[.str p tp, .int 32 tq, .int 0 0, .none, .none, .ref cd, .int 0 0] → s₂.heap.IsTuple cd vals → (vals.map Builtin.Re.reRawOf).map (·.toNat) = codes → failsOn codes x.cps = true →
      wpAny (model P0 w) (A.deeper (callEnvC fd139 s.heap.objs.size 139)) (execs ((fBody (cst 1)).getD 0 (.Pass ⟨0, 0, 0, 0⟩) |> fun | .If _ b _ _ => b.drop 1 | _ => []) (callEnvC fd139 s.heap.objs.size 139)) (fun fl s' => match fl with | .ret v => v = .str x t ∧ Sm s s' ∧ Ext s.heap s'.heap | _ => False) (fun _ _ => False) s₂ := by
    intro s₂ a cd codes vals p tp tq ob v M₂ F₂ hr hv ho hc hdd hd ht hcodes hfail
    refine wpAny_execs_cons (wpAny_If (isTrue_plain (wpAny_Call_method (T := "re.Pattern") (id := "re.Pattern.search") rfl rfl rfl pa_pat slot_pat type_pat (nmF F₂ hr ⟨⟨ob, ho, hc⟩, fun a' e => ?_, ?_⟩ (by kernel_rfl)))))
    · cases e; exact ⟨ob, ho, hdd⟩
    refine callWith_builtin rfl (evalArgs_plain (spliced_cons (nmF F₂ hv (spliced_nil ?_) (by kernel_rfl))))
    refine pat_search ho hc hd ht hx (by rw [hcodes]; exact hfail) (PyProof.Rows.truthy_none ?_)
    simp only [Bool.false_eq_true, if_false]
    exact wpAny_execs_nil (wpAny_execs_cons (wpAny_Return_some (nmF F₂ hv ⟨rfl, M₂, F₂.keep⟩ (by kernel_rfl))))
  have fin : ∀ {s₂ : Shared}, wpAny (model P0 w) (A.deeper (callEnvC fd139 s.heap.objs.size 139)) (execs ((fBody (cst 1)).getD 0 (.Pass ⟨0, 0, 0, 0⟩) |> fun | .If _ b _ _ => b.drop 1 | _ => []) (callEnvC fd139 s.heap.objs.size 139)) (fun fl s' => match fl with | .ret v => v = .str x t ∧ Sm s s' ∧ Ext s.heap s'.heap | _ => False) (fun _ _ => False) s₂ →
      ∀ (l : List Stmt), wpAny (model P0 w) (A.deeper (callEnvC fd139 s.heap.objs.size 139)) (execs ((fBody (cst 1)).getD 0 (.Pass ⟨0, 0, 0, 0⟩) |> fun | .If _ b _ _ => b.drop 1 | _ => []) (callEnvC fd139 s.heap.objs.size 139))
        (fun fl s' => match fl with | .next => wpAny (model P0 w) (A.deeper (callEnvC fd139 s.heap.objs.size 139)) (execs l (callEnvC fd139 s.heap.objs.size 139)) (fun fl s' => Q (match fl with | .ret v => v | _ => .none) s') (fun _ _ => False) s' | f => Q (match f with | .ret v => v | _ => .none) s') (fun _ _ => False) s₂ := by
    intro s₂ hw l
    refine wpAny_mono hw (fun fl s' q => ?_) fun _ _ e => e
    cases fl with
    | ret v => obtain ⟨rfl, M', k'⟩ := q; exact h s' M' k'
    | _ => exact q.elim
  cases b with
  | true =>
    simp only [if_true] at hf ⊢
    refine nmG B₁ (r := .ref 104) (by kernel_rfl) (stF F₁ (by kernel_rfl) fun s₂ M₂ F₂ _ => ?_) rfl (by kernel_rfl) rfl
    have B₂ := B.ext F₂.keep
    exact fin (hsearch (codes := codesN) (M₁.trans' M₂) F₂ rfl rfl (B₂.k 104 _ rfl) rfl rfl rfl ⟨_, B₂.k 103 _ rfl, rfl, _, rfl⟩ (by kernel_rfl) hf) _
  | false =>
    simp only [Bool.false_eq_true, if_false] at hf ⊢
    refine nmG B₁ (r := .ref 109) (by kernel_rfl) (stF F₁ (by kernel_rfl) fun s₂ M₂ F₂ _ => ?_) rfl (by kernel_rfl) rfl
    have B₂ := B.ext F₂.keep
    exact fin (hsearch (codes := codesV) (M₁.trans' M₂) F₂ rfl rfl (B₂.k 109 _ rfl) rfl rfl rfl ⟨_, B₂.k 108 _ rfl, rfl, _, rfl⟩ (by kernel_rfl) hf) _
end Zd

namespace Zd
open PySem PySem.W PyProof.Rows PySem.Calls Builtin Builtin.ObjectAttr

/-- a Headers object with the list at L -/
def HeadAt (h : Heap) (x L : Addr) : Prop := ∃ dx hs t n, h.get? x = some (instObj 238 dx) ∧ h.get? dx = some { cls := .type "dict", data := .dict #[⟨hs, .str (Str.ofString "_headers") t, .ref L⟩] n }
theorem HeadAt.ext {h h' : Heap} {x L : Addr} (a : HeadAt h x L) (k : Ext h h') : HeadAt h' x L := let ⟨dx, hs, t, n, a, b⟩ := a; ⟨dx, hs, t, n, k _ _ a, k _ _ b⟩

section
variable {w : World} {A : Around} {E : Value → Shared → Prop} {s : Shared} {env : Env}

theorem Call_meth {o : Expr} {name : Str} {apos pos : Pos} {args : List Expr} {kws : List Keyword} {x f : Addr} {ob : Obj} {fd : FuncData} {Q : Value → Shared → Prop}
    (h : wpAny (model P0 w) A (eval o env) (fun ov s₁ => ov = .ref x ∧ (∀ pl Q', Q' (.ref f, [.ref x]) s₁ → wpAny (model P0 w) A (getMethod (.ref x) name pl) Q' E s₁) ∧
      wpAny (model P0 w) A (evalArgs (.ref f) true (backTo pos (starEach args env)) (backToKw pos (keywordEach kws env))) (fun a s₂ => (s₂.heap.get? f = some ob ∧ ob.data = .func fd) ∧ wpAny (model P0 w) A (call (.ref f) ([.ref x] ++ a.pos) a.kw) Q E s₂) E s₁) E s)
    (hbase : attributeBase o name env (eval o env) = eval o env := by rfl)
    (hform : methodCallForm (args.length + kws.length) (backTo pos (starEach args env)) (backToKw pos (keywordEach kws env)) = true := by rfl)
    (hline : (apos.endLine == pos.line) = true := by rfl) : wpAny (model P0 w) A (eval (.Call (.Attribute o name apos) args kws pos) env) Q E s := by
  rw [arm_eval_Call, hbase]
  refine wpAny_bind (wpAny_mono h (fun ov s₁ h₁ => ?_) fun _ _ e => e)
  obtain ⟨rfl, hm, hc⟩ := h₁
  refine wpAny_bind (wpAny_standAt ?_)
  have hpos : methodCallPos true o env apos pos = pure pos := by unfold methodCallPos; simp [hline]
  unfold methodCall
  rw [hform]
  refine wpAny_bind (wpAny_holding (hm _ _ ?_))
  exact wpAny_bind (wpAny_of_eq hpos (callWith_function_kw hc))

theorem instAt {h : Heap} {x dx : Addr} {od : Obj} (a : h.get? x = some (instObj 238 dx)) (b : h.get? dx = some od) : W.InstAt h x (instObj 238 dx) 238 (some od) := ⟨a, rfl, rfl, b⟩
theorem head_method {x L f : Addr} {name : Str} {pl : Sem Bool} {Q : Value × List Value → Shared → Prop} (B : Base w s.heap) (H : HeadAt s.heap x L) (hf : findIn (KF w.params) (.ref 238) name = some (some (.ref f))) (ht : typeIn (KF w.params) (.ref f) = some (.type "function"))
    (hne : (Str.ofString "_headers" == name) = false) (h : Q (.ref f, [.ref x]) s) : wpAny (model P0 w) A (getMethod (.ref x) name pl) Q E s := by
  obtain ⟨dx, hs, t, n, a, b⟩ := H
  refine method_fn B.k (instAt a b) (by kernel_rfl) (by kernel_rfl) hf ht ?_ h
  show ((lookIn name _).map (·.isSome)) = some false
  unfold lookIn
  simp only [List.find?_cons, Value.isStr, hne, List.find?_nil]
  rfl
theorem head_list {x L : Addr} {expr : Bool} {Q : Value → Shared → Prop} (B : Base w s.heap) (H : HeadAt s.heap x L) (h : Q (.ref L) { s with toks := s.toks + 1 }) : wpAny (model P0 w) A (getAttr (.ref x) (Str.ofString "_headers") expr) Q E s := by
  obtain ⟨dx, hs, t, n, a, b⟩ := H
  exact get_value B.k (instAt a b) (by kernel_rfl) (by kernel_rfl) rfl h
theorem store_list {x dx : Addr} {v : Value} {Q : Unit → Shared → Prop} (B : Base w s.heap) (a : s.heap.get? x = some (instObj 238 dx)) (b : s.heap.get? dx = some emptyDict)
    (h : ∀ s', Sm s s' → (∃ hs t n, s'.heap.get? dx = some { cls := .type "dict", data := .dict #[⟨hs, .str (Str.ofString "_headers") t, v⟩] n }) → Heap.SameBut dx s.heap s'.heap → Q () s') : wpAny (model P0 w) A (setAttr (.ref x) (Str.ofString "_headers") v) Q E s := by
  refine set_plain B.k (instAt a b) (by kernel_rfl) (osa_open (r := none) B.k (instAt a b) (by kernel_rfl) (by kernel_rfl) fun b' => ?_)
  have hc : ∃ cd, clsIn (KF w.params) 238 = some cd ∧ cd.hasDict = true := ⟨_, rfl, rfl⟩
  obtain ⟨cd, hc, hd'⟩ := hc
  refine wpAny_bind (wpAny_pure (wpAny_bind (wpAny_bind (wpAny_loadPart a (wpAny_bind (Looks.here (s := { s with toks := s.toks + 1 }) (looks_clsIn B.k hc) ?_))))))
  rw [hd']
  refine wpAny_pure (a := some dx) (wpAny_bind (wpAny_pure (wpAny_bind ?_)))
  unfold nsSet
  refine wpAny_bind (wpAny_bind (wpAny_askSetting (wpAny_pure (wpAny_bind (wpAny_mkText (wpAny_bind (wpAny_loadPart b ?_)))))))
  dsimp only
  rw [aRefKeyMayBeTheName_at]
  simp only [Array.any_empty, Bool.and_false, Bool.false_eq_true, if_false, List.any_toArray, List.any_nil]
  refine wpAny_updatePart b ?_
  have D' := Heap.get?_update_self (Obj.putName (Str.ofString "_headers") (PyData.keyHash w.params (Str.ofString "_headers")) (.str (Str.ofString "_headers") (s.toks + 1)) v) b rfl
  refine wpAny_bind (wpAny_lookBehind D' (by exact pastItsLine_dict (show 1 ≤ sizeLine + 1 by omega)) ?_)
  exact wpAny_pure (h _ ⟨rfl, rfl⟩ ⟨_, _, _, D'⟩ (Heap.SameBut.update ..))
end
end Zd

namespace Zd
open PySem PySem.W PyProof.Rows PySem.Calls

theorem For_empty {w : World} {A : Around} {E : Value → Shared → Prop} {s : Shared} {env : Env} {target iter : Expr} {body : List Stmt} {pos : Pos} {L : Addr} {Q : Flow → Shared → Prop} (hh : A.handled = none)
    (hiter : ∀ Q' : Value → Shared → Prop, Q' (.ref L) s → wpAny (model P0 w) A (eval iter env) Q' E s) (hl : s.heap.IsList L #[])
    (h : ∀ s', Sm s s' → Ext s.heap s'.heap → Q .next s') (hs : ∀ x, foldedSetIterable iter env x = pure x := by intro _; rfl) :
    wpAny (model P0 w) A (exec (.For target iter body [] pos) env) Q E s := by
  refine wpAny_For (hiter _ (wpAny_pyIter_list hl ?_)) hs
  refine codeAny_forLoop_any (fun n s' => n = 0 ∧ Sm s s' ∧ Ext s.heap s'.heap ∧ s'.heap.IsListIter s.heap.objs.size L 0 ∧ s'.heap.IsList L #[]) ?_ 0 ⟨rfl, ⟨rfl, rfl⟩, Ext.push' _ _, ⟨_, Heap.get?_push_size _ rfl, rfl, rfl⟩, hl.push _⟩
  rintro n s' ⟨rfl, M, k, hit, hl'⟩
  refine wpAny_pyNext_list_end hh hit hl' rfl fun h₁ he => wpAny_execs_nil (h _ ⟨M.gens, M.os⟩ fun b o e => ?_)
  exact he b o (Nat.ne_of_lt (Heap.lt_size e)) (k b o e)

def fd132 : FuncData := ⟨(Str.ofString "__init__"), (Str.ofString "Headers.__init__"), fParams (cst 0), .stmts (fBody (cst 0)), fScope (cst 0), 3, [], .ref 125, .none, .none, .str (Str.ofString "cpy313.wsgiref.headers") 576, none, .ref 131, .none, 0⟩
theorem cd132 {w : World} {h : Heap} (B : Base w h) : ∃ o, h.get? 132 = some o ∧ o.data = .func fd132 ∧ h.CodeRec (.ref 131) (Str.ofString "Headers.__init__") :=
  ⟨_, B.k 132 _ rfl, rfl, 131, _, _, _, rfl, B.k 131 _ rfl, rfl, rfl⟩

theorem init_spec {w : World} {A : Around} {s : Shared} {R : Result → Shared → Prop} {x dx : Addr} (B : Base w s.heap) (hA : A.depth < 900) (hh : A.handled = none) (ha : s.heap.get? x = some (instObj 238 dx)) (hb : s.heap.get? dx = some emptyDict)
    (h : ∀ s' L, Sm s s' → (∀ b o, b ≠ dx → s.heap.get? b = some o → s'.heap.get? b = some o) → Above s.heap L → HeadAt s'.heap x L → s'.heap.PlainList L #[] → R (.ok (.ret .none)) s') : codeAny (model P0 w) A (.call (.ref 132) ⟨[.ref x], []⟩) R s := by
  obtain ⟨o, ho, hdat, hcd⟩ := cd132 B
  have hbind : BindsTo s fd132 ⟨[.ref x], []⟩ [(Str.ofString "self", .ref x), (Str.ofString "headers", .none)] := BindsTo.of_defaults (T := 125) rfl (B.k 125 _ rfl) rfl rfl rfl
  refine enterC (fd := fd132) (binds := [(Str.ofString "self", .ref x), (Str.ofString "headers", .none)]) B (by unfold recursionLimit; omega) ho hdat hcd rfl hbind rfl (fun n => rfl) (by decide +kernel) fun s₁ M₁ F₁ => ?_
  have B₁ : Base w s₁.heap := B.ext F₁.keep
  refine wpAny_execs_cons (wpAny_Assign_Name (wpAny_IfExp (wpAny_isTrue_Compare1 (nmF F₁ rfl (wpAny_Constant_none (wpAny_isNot_self rfl (wpAny_truthy_bool ?_))) (by kernel_rfl)))))
  simp only [Bool.not_true, Bool.false_eq_true, if_false]
  refine wpAny_List_spliced (spliced_nil ⟨Nat.zero_le _, ?_⟩)
  have hL : (s₁.heap.push { cls := .type "list", data := .seq ([] : List Value).toArray }).PlainList s₁.heap.objs.size #[] := ⟨_, Heap.get?_push_size _ rfl⟩
  have hLP : ¬ Priv (callEnvC fd132 s.heap.objs.size 132) s₁.heap.objs.size := F₁.size_notPriv (Nat.le_refl _)
  have hLA : Above s.heap s₁.heap.objs.size := (Above.size _).ext F₁.keep
  have FL := F₁.ext (Ext.push' s₁.heap { cls := .type "list", data := .seq ([] : List Value).toArray })
  generalize s₁.heap.objs.size = L at hL hLP hLA ⊢
  refine stF (s := { s₁ with heap := _ }) FL (by kernel_rfl) fun s₂ M₂ F₂ S₂ => ?_
  have hL2 : s₂.heap.PlainList L #[] := hL.at fun o e => S₂ L o hLP e
  have B₂ : Base w s₂.heap := B.ext F₂.keep
  refine wpAny_execs_cons (wpAny_If (wpAny_isTrue_Compare1 (callT1 (T := "type") (fun Q' q => nmB B₂ (by kernel_rfl) (by decide +kernel) q rfl (by kernel_rfl) rfl rfl) (nmF F₂ rfl (call_type_of (Tx := "list") hL2.isList.typeIs (by decide) ?_) (by kernel_rfl)))))
  refine nmB B₂ (by kernel_rfl) (r := .type "list") (by decide +kernel) (wpAny_isNot_self rfl (wpAny_truthy_bool ?_)) rfl (by kernel_rfl) rfl rfl
  simp only [Bool.false_eq_true, if_false]
  refine wpAny_execs_nil (wpAny_execs_cons (plainObj_wpAny_Assign_Attribute (nmF F₂ rfl (nmF F₂ rfl ?_ (by kernel_rfl)) (by kernel_rfl))))
  refine store_list B₂ (F₂.keep _ _ ha) (F₂.keep _ _ hb) fun s₃ M₃ ⟨hs, t, n, hd⟩ hsb => ?_
  have F₃ : FF (callEnvC fd132 s.heap.objs.size 132) {} _ s₃.heap := (F₂.rebase (h₁ := {}) (fun b o e => by cases e) (fun b _ => rfl)).mut (F₂.notPriv hb) rfl fun b o hb e => hsb.extBut b o hb e
  have hxd : x ≠ dx := fun e => by rw [e, hb] at ha; cases ha
  have hLd : L ≠ dx := fun e => by have q := hLA dx _ hb; rw [e] at q; exact Nat.lt_irrefl _ q
  have HA : HeadAt s₃.heap x L := ⟨dx, hs, t, n, hsb.extBut _ _ hxd (F₂.keep _ _ ha), hd⟩
  have hL3 : s₃.heap.PlainList L #[] := hL2.at fun o e => hsb.extBut _ _ hLd e
  refine wpAny_execs_cons (wpAny_If (isTrue_plain (wpAny_Constant_bool (wpAny_truthy_bool ?_))))
  simp only [if_true]
  refine wpAny_execs_cons (For_empty (A := A.deeper _) hh (L := L) (fun Q' q => nmF F₃ rfl q (by kernel_rfl)) hL3.isList fun s₄ M₄ k₄ => wpAny_execs_nil (wpAny_execs_nil ?_))
  exact h s₄ L (((M₁.trans' ⟨M₂.gens, M₂.os⟩).trans' M₃).trans' M₄) (fun b o hb e => k₄ _ _ (hsb.extBut b o hb (F₂.keep _ _ e))) hLA (HA.ext k₄) (hL3.at fun o e => k₄ _ _ e)

theorem make_spec {w : World} {A : Around} {E : Value → Shared → Prop} {s : Shared} {Q : Value → Shared → Prop} (B : Base w s.heap) (hA : A.depth < 800) (hh : A.handled = none)
    (h : ∀ s' x L dx, Sm s s' → Ext s.heap s'.heap → Above s.heap x → Above s.heap L → Above s.heap dx → s'.heap.get? x = some (instObj 238 dx) → HeadAt s'.heap x L → s'.heap.PlainList L #[] → Q (.ref x) s') : wpAny (model P0 w) A (call (.ref 238) [] []) Q E s := by
  obtain ⟨hp, g, d, t, os⟩ := s
  refine wpAny_call (make_core (C := 238) (makes_of B.k (by kernel_rfl)) (looks_findIn (r := some (.ref 132)) B.k (by kernel_rfl)) (fun self => bind_fn B.k self (by kernel_rfl)) (.inl rfl) ?_)
  have k : Ext hp ((hp.push emptyDict).push (instObj 238 hp.objs.size)) := (Ext.push' _ _).trans' (Ext.push' _ _)
  have hx : ((hp.push emptyDict).push (instObj 238 hp.objs.size)).get? (hp.objs.size + 1) = some (instObj 238 hp.objs.size) := by
    have := Heap.get?_push_size (h := hp.push emptyDict) (o := instObj 238 hp.objs.size) rfl
    rwa [Heap.size_push] at this
  have hd : ((hp.push emptyDict).push (instObj 238 hp.objs.size)).get? hp.objs.size = some emptyDict := Heap.get?_push_of_some _ (Heap.get?_push_size _ rfl)
  refine init_spec (s := ⟨_, g, d, t, os⟩) (B.ext k) ?_ ?_ hx hd fun s' L M kk hL H hl => ⟨rfl, h s' _ L hp.objs.size ⟨M.gens, M.os⟩ (fun b o e => kk b o (Nat.ne_of_lt (Heap.lt_size e)) (k b o e)) (fun b o e => Nat.lt_succ_of_lt (Heap.lt_size e)) (hL.ext k) (Above.size _) (kk _ _ (Nat.succ_ne_self _) hx) H hl⟩
  · rw [show ((A.under (.builtin "type.__call__" ⟨[.ref 238], []⟩)).depth) = A.depth + 1 from depth_under_make A 238 []]; omega
  · exact hh
end Zd

namespace Zd
open PySem PySem.W PyProof.Rows PySem.Calls

section
variable {w : World} {A : Around} {E : Value → Shared → Prop} {s : Shared} {env : Env}
/-- r.name(e), a built-in method -/
theorem mB1 {T id : String} {name : Str} {apos pos : Pos} {o e : Expr} {Q : Value → Shared → Prop} (pa : PlainAttrs T) (slot : Slot T name id) (hty : typeOf (.builtin id) = pure (.type "method_descriptor"))
    (ho : wpAny (model P0 w) A (eval o env) (fun r s₁ => s₁.TypeIs r T ∧ (∀ a, r = .ref a → ∃ ob, s₁.heap.get? a = some ob ∧ ob.dict = none) ∧
      wpAny (model P0 w) A (eval e env) (fun a s₂ => wpAny (model P0 w) A (call (.builtin id) [r, a] []) Q E s₂) E s₁) E s)
    (hbase : attributeBase o name env (eval o env) = eval o env := by rfl) (ht : backTo pos (starEach [e] env) = [(false, eval e env)] := by rfl) (hline : (apos.endLine == pos.line) = true := by rfl) :
    wpAny (model P0 w) A (eval (.Call (.Attribute o name apos) [e] [] pos) env) Q E s := by
  refine wpAny_Call_method hbase (by rw [ht]; rfl) hline pa slot hty (wpAny_mono ho (fun r s₁ h => ⟨h.1, h.2.1, ?_⟩) fun _ _ e => e)
  rw [ht]
  exact callWith_builtin rfl (evalArgs_plain (spliced_cons (wpAny_mono h.2.2 (fun a s₂ q => spliced_nil q) fun _ _ q => q)))
/-- r.name(), a built-in method -/
theorem mB0 {T id : String} {name : Str} {apos pos : Pos} {o : Expr} {Q : Value → Shared → Prop} (pa : PlainAttrs T) (slot : Slot T name id) (hty : typeOf (.builtin id) = pure (.type "method_descriptor"))
    (ho : wpAny (model P0 w) A (eval o env) (fun r s₁ => s₁.TypeIs r T ∧ (∀ a, r = .ref a → ∃ ob, s₁.heap.get? a = some ob ∧ ob.dict = none) ∧ wpAny (model P0 w) A (call (.builtin id) [r] []) Q E s₁) E s)
    (hbase : attributeBase o name env (eval o env) = eval o env := by rfl) (hline : (apos.endLine == pos.line) = true := by rfl) :
    wpAny (model P0 w) A (eval (.Call (.Attribute o name apos) [] [] pos) env) Q E s := by
  refine wpAny_Call_method hbase rfl hline pa slot hty (wpAny_mono ho (fun r s₁ h => ⟨h.1, h.2.1, ?_⟩) fun _ _ e => e)
  exact callWith_builtin rfl (PySem.evalArgs_none h.2.2)
end

/-- entering a def whose binding makes objects -/
theorem enterP {w : World} {A : Around} {E : Value → Shared → Prop} {s s₀ : Shared} {Q : Value → Shared → Prop} {f : Addr} {o : Obj} {fd : FuncData} {body : List Stmt} {pos : List Value} {kw : List (Str × Value)} {binds : List (Str × Value)}
    (B : Base w s₀.heap) (hroom : A.depth < recursionLimit) (ho : s.heap.get? f = some o) (hdata : o.data = .func fd) (hcd : s.heap.CodeRec fd.code fd.qualname)
    (hbody : fd.body = .stmts body) (hbind : ∀ (E : Value → Shared → Prop) (Q : List (Str × Value) → Shared → Prop), Q binds s₀ → wpAny (model P0 w) A.in1 (bindArgs fd ⟨pos, kw⟩) Q E s) (hclo : fd.closure = [])
    (hkind : ∀ n, (binds.all fun x => decide (fd.scope.names.lookup x.1 = some .local) || (decide (fd.scope.names.lookup x.1 = some .cell) && ((cellsFrom n fd.scope.names []).lookup x.1).isSome)) = true)
    (hnd : ((cellsFrom 0 fd.scope.names []).map (·.1)).Nodup)
    (h : ∀ s₁, Sm s₀ s₁ → FF (callEnvC fd s₀.heap.objs.size f) s₀.heap (fun n => binds.reverse.lookup n) s₁.heap →
      wpAny (model P0 w) (A.deeper (callEnvC fd s₀.heap.objs.size f)) (execs body (callEnvC fd s₀.heap.objs.size f)) (fun fl s' => Q (match fl with | .ret v => v | _ => .none) s') (fun _ _ => False) s₁)
    (hco : fd.scope.isCoroutine = false := by rfl) (hgen : fd.scope.isGenerator = false := by rfl) (hk : fd.scope.kind = .function := by rfl) :
    wpAny (model P0 w) A (call (.ref f) pos kw) Q E s := by
  refine wpAny_call (codeAny_call_function hroom ho hdata hco hgen hbody hcd (hbind _ _ ?_))
  rw [hclo]
  refine wpAny_newFunctionEnv_cells hk (fun x hx => ?_) fun env he s' x => ?_
  · have := List.all_eq_true.mp (hkind (s₀.heap.objs.size + 1)) x hx
    simpa only [Bool.or_eq_true, Bool.and_eq_true, decide_eq_true_eq] using this
  · subst he
    refine ⟨B.lim.keeps x.toInCall.keep, codeAny_func ?_⟩
    obtain ⟨h₁, tk, rfl, hk₁⟩ := x.done
    refine wpAny_mono (h _ ⟨rfl, rfl⟩ ?_) (fun _ _ q => q) fun _ _ q => q.elim
    have hnone : ∀ b, s₀.heap.objs.size ≤ b → s₀.heap.get? b = none := fun b hb => by
      cases e : s₀.heap.get? b with
      | none => rfl
      | some o => exact absurd hb (Nat.not_le_of_lt (Heap.lt_size e))
    refine ⟨hk, ⟨_, x.toInCall.ns, fun n hn => ?_⟩, fun n c hc hn => ?_, x.toInCall.keep, fun b p => ?_, fun b p => ?_, x.apart, fun n c hm => Nat.ne_of_gt (x.above n c hm)⟩
    · have e := bindL_at (kindOf := (newEnv fd.scope s₀.heap.objs.size fd.globals (cellsFrom (s₀.heap.objs.size + 1) fd.scope.names []) (fd.qualname ++ Str.ofString ".<locals>.") (some f) fd.code none fd.builtins).kindOf) hn binds (fun _ => none)
      rw [e]; simp
    · have e : bindC (callEnvC fd s₀.heap.objs.size f).kindOf binds (fun _ => none) n = binds.reverse.lookup n := by rw [bindC_at hn]; simp
      have := x.cell n c hc
      exact e ▸ this
    · rcases p with rfl | ⟨n, hn⟩
      · exact hnone _ (Nat.le_refl _)
      · exact hnone _ (Nat.le_of_lt (x.above n b hn))
    · rcases p with rfl | ⟨n, hn⟩
      · obtain ⟨o', _, _, ho', _⟩ := x.toInCall.ns; exact ⟨o', ho'⟩
      · obtain ⟨o', ho', _⟩ := x.cell n b (lookup_of_mem_nodup (cellsFrom_names fd.scope.names 0 (s₀.heap.objs.size + 1) [] [] rfl ▸ hnd) hn)
        exact ⟨o', ho'⟩

/-- self._convert_string_type(e, name=b) -/
theorem convE {w : World} {A : Around} {E : Value → Shared → Prop} {s : Shared} {env : Env} {h₀ : Heap} {v : Str → Option Value} {x L : Addr} {y : Str} {t : Tok} {b : Bool} {e : Expr} {k : Nat} {p1 p2 p3 apos pos : Pos} {Q : Value → Shared → Prop}
    (F : FF env h₀ v s.heap) (B : Base w s.heap) (hA : A.depth < 900) (hself : v (Str.ofString "self") = some (.ref x)) (hheld : Held env (Str.ofString "self") = true) (H : HeadAt s.heap x L)
    (he : ∀ Q' : Value → Shared → Prop, Q' (.str y t) s → wpAny (model P0 w) A (eval e env) Q' E s) (hf : failsOn (if b then codesN else codesV) y.cps = true) (hy : y.cps.size < 1000)
    (h : ∀ s', Sm s s' → Ext s.heap s'.heap → Q (.str y t) s')
    (hform : methodCallForm ([e].length + [Keyword.mk (some (Str.ofString "name")) (.Constant (.bool b) k p2) p3].length) (backTo pos (starEach [e] env)) (backToKw pos (keywordEach [Keyword.mk (some (Str.ofString "name")) (.Constant (.bool b) k p2) p3] env)) = true := by rfl)
    (hst : starEach (e :: []) env = (false, eval e env) :: starEach [] env := by rfl)
    (hline : (apos.endLine == pos.line) = true := by rfl) :
    wpAny (model P0 w) A (eval (.Call (.Attribute (.Name (Str.ofString "self") p1) (Str.ofString "_convert_string_type") apos) [e] [⟨some (Str.ofString "name"), .Constant (.bool b) k p2, p3⟩] pos) env) Q E s := by
  refine Call_meth (x := x) (f := 139) (ob := o139 w.params) (fd := fd139) (nmF F hself ⟨rfl, fun pl Q' q => head_method B H (by kernel_rfl) (by kernel_rfl) (by decide +kernel) q, ?_⟩ hheld) rfl hform hline
  refine evalArgs_kw2 rfl ?_ hst
  rw [hst]
  refine spliced_cons (he _ (spliced_nil (kwAll_cons (wpAny_Constant_bool (kwAll_nil ⟨⟨B.k 139 _ rfl, rfl⟩, ?_⟩)))))
  exact conv_spec B hA hf hy h

/-- a list of pairs of words -/
def HdrL (h : Heap) (P : Addr → Prop) (L : Addr) (ps : List (Str × Str)) : Prop :=
  ∃ Ts : List Addr, h.PlainList L (Ts.map Value.ref).toArray ∧ Ts.length = ps.length ∧ ∀ (i : Nat) (T : Addr) (p : Str × Str), Ts[i]? = some T → ps[i]? = some p → P T ∧ ∃ ta tb, h.IsTuple T #[.str p.1 ta, .str p.2 tb]

def fd235 : FuncData := ⟨(Str.ofString "add_header"), (Str.ofString "Headers.add_header"), fParams (cst 16), .stmts (fBody (cst 16)), fScope (cst 16), 3, [], .none, .none, .none, .str (Str.ofString "cpy313.wsgiref.headers") 576, none, .ref 234, .none, 0⟩
theorem cd235 {w : World} {h : Heap} (B : Base w h) : ∃ o, h.get? 235 = some o ∧ o.data = .func fd235 ∧ h.CodeRec (.ref 234) (Str.ofString "Headers.add_header") :=
  ⟨_, B.k 235 _ rfl, rfl, 234, _, _, _, rfl, B.k 234 _ rfl, rfl, rfl⟩

theorem add_spec {w : World} {A : Around} {E : Value → Shared → Prop} {s : Shared} {Q : Value → Shared → Prop} {x L : Addr} {name val : Str} {tn tv : Tok} {ps : List (Str × Str)} (B : Base w s.heap) (hA : A.depth < 800) (hh : A.handled = none)
    {PP : Addr → Prop} (hPP0 : ∀ r, Above s.heap r → PP r) (H : HeadAt s.heap x L) (HL : HdrL s.heap PP L ps) (hps : ps.length ≤ 1000) (h1 : failsOn codesN name.cps = true) (h1' : name.cps.size < 1000) (h2 : failsOn codesV val.cps = true) (h2' : val.cps.size < 1000)
    (h : ∀ s', Sm s s' → (∀ b o, b ≠ L → s.heap.get? b = some o → s'.heap.get? b = some o) → HdrL s'.heap PP L (ps ++ [(name, val)]) → Q .none s') :
    wpAny (model P0 w) A (call (.ref 235) [.ref x, .str name tn, .str val tv] []) Q E s := by
  obtain ⟨o, ho, hdat, hcd⟩ := cd235 B
  have k0 : Ext s.heap (s.heap.push { cls := .type "dict", data := .dict #[] }) := Ext.push' _ _
  refine enterP (s₀ := { s with heap := s.heap.push { cls := .type "dict", data := .dict #[] } }) (fd := fd235) (binds := [(Str.ofString "self", .ref x), (Str.ofString "_name", .str name tn), (Str.ofString "_value", .str val tv), (Str.ofString "_params", .ref s.heap.objs.size)]) (B.ext k0) (by unfold recursionLimit; omega) ho hdat hcd rfl ?_ rfl (fun n => rfl) (by decide +kernel) fun s₁ M₁ F₁ => ?_
  · intro E' Q' q
    have e : bindArgs fd235 ⟨[.ref x, .str name tn, .str val tv], []⟩ = alloc { cls := .type "dict", data := .dict #[] } >>= fun d => pure [(Str.ofString "self", .ref x), (Str.ofString "_name", .str name tn), (Str.ofString "_value", .str val tv), (Str.ofString "_params", .ref d)] := by kernel_rfl
    rw [e]
    exact wpAny_bind (wpAny_alloc (wpAny_pure q))
  have B₀ : Base w ({ s with heap := s.heap.push { cls := .type "dict", data := .dict #[] } } : Shared).heap := B.ext k0
  have D0 : (s.heap.push { cls := .type "dict", data := .dict #[] }).DictOf (strKind P0 w) s.heap.objs.size [] := Heap.DictOf.new s.heap
  have hDA : (s.heap.objs.size == sysModules) = false := B.above (Above.size _)
  replace F₁ : FF (callEnvC fd235 (s.heap.push { cls := .type "dict", data := .dict #[] }).objs.size 235) (s.heap.push { cls := .type "dict", data := .dict #[] }) _ s₁.heap := F₁
  obtain ⟨Ts, hpl, hlen, hT⟩ := HL
  generalize s.heap.objs.size = D at F₁ D0 hDA M₁ ⊢
  generalize s.heap.push { cls := .type "dict", data := .dict #[] } = H0 at k0 F₁ B₀ D0 M₁ ⊢
  refine wpAny_execs_cons (wpAny_Assign_Name (wpAny_List_spliced (spliced_nil ⟨Nat.zero_le _, ?_⟩)))
  have hP : (s₁.heap.push { cls := .type "list", data := .seq ([] : List Value).toArray }).PlainList s₁.heap.objs.size #[] := ⟨_, Heap.get?_push_size _ rfl⟩
  have hPP : ¬ Priv (callEnvC fd235 H0.objs.size 235) s₁.heap.objs.size := F₁.size_notPriv (Nat.le_refl _)
  have hPA : Above H0 s₁.heap.objs.size := (Above.size _).ext F₁.keep
  have FP := F₁.ext (Ext.push' s₁.heap { cls := .type "list", data := .seq ([] : List Value).toArray })
  generalize s₁.heap.objs.size = P at hP hPP hPA ⊢
  refine stF (s := { s₁ with heap := _ }) FP (by kernel_rfl) fun s₂ M₂ F₂ S₂ => ?_
  have hP2 : s₂.heap.PlainList P #[] := hP.at fun o e => S₂ P o hPP e
  have M2 : Sm s s₂ := ⟨M₂.gens.trans M₁.gens, M₂.os.trans M₁.os⟩
  refine wpAny_execs_cons (wpAny_If (wpAny_isTrue_Compare1 (nmF F₂ rfl (wpAny_Constant_none (wpAny_isNot_other rfl (by intro e; cases e) (wpAny_truthy_bool ?_))) (by kernel_rfl))))
  simp only [if_true]
  have hd : (A.deeper (callEnvC fd235 H0.objs.size 235)).depth < 900 := by show A.depth + 1 < 900; omega
  refine wpAny_execs_cons (wpAny_Assign_Name (convE (b := false) F₂ (B₀.ext F₂.keep) hd rfl (by kernel_rfl) ((H.ext k0).ext F₂.keep) (fun Q' q => nmF F₂ rfl q (by kernel_rfl)) h2 h2' fun s₃ M₃ k₃ => ?_))
  have F₃ := F₂.ext k₃
  refine stF F₃ (by kernel_rfl) fun s₄ M₄ F₄ S₄ => ?_
  have hP4 : s₄.heap.PlainList P #[] := (hP2.at fun o e => k₃ _ o e).at fun o e => S₄ P o hPP e
  refine wpAny_execs_cons (wpAny_Expr_any (mB1 (T := "list") (id := "list.append") F.plainAttrs_list slot_list_append F.type_list_append (nmF F₄ rfl ⟨hP4.isList.typeIs, fun a e => by cases e; obtain ⟨n, ho⟩ := hP4; exact ⟨_, ho, rfl⟩, nmF F₄ rfl ?_ (by kernel_rfl)⟩ (by kernel_rfl))))
  refine wpAny_list_append_plain hP4 fun h₅ hP5 hs₅ => wpAny_execs_nil ?_
  have F₅ := F₄.mut (h' := h₅) hPP hPA.none fun b o hb e => hs₅.extBut b o hb e
  obtain ⟨oD, hoD⟩ : ∃ o, H0.get? D = some o := by obtain ⟨o, _, _, ho, _⟩ := D0; exact ⟨o, ho⟩
  refine wpAny_execs_cons ?_
  refine For_items (fun _ => False) (fun Z i v h => ¬ Z P ∧ v (Str.ofString "self") = some (.ref x) ∧ v (Str.ofString "_name") = some (.str name tn) ∧ v (Str.ofString "parts") = some (.ref P) ∧ h.PlainList P #[.str val tv])
    (A := A.deeper _) (s := { s₄ with heap := h₅ }) hh hDA F₅ (fun c q => q.elim) (D0.at fun o e => F₅.keep _ _ e) (F₅.notPriv hoD) (fun q => q) (fun Q' q => nmF F₅ rfl q (by kernel_rfl))
    (fun Z h hZ k => ⟨fun z => (by obtain ⟨n, ho⟩ := hP5; have := hZ P z; rw [show h₅.get? P = _ from ho] at this; cases this), rfl, rfl, rfl, hP5.at fun o e => k _ _ e⟩) (by kernel_rfl) (by kernel_rfl) (fun Z i v h h₁ _ ⟨a0, a1, a2, a3, a4⟩ k => ⟨a0, a1, a2, a3, a4.at fun o e => k P o hPP a0 e⟩) (fun Z i k kt val s' v e => by simp at e) ?_
  rintro Z s₆ v M₆ F₆ ⟨_, a1, a2, a3, hP6⟩
  have B₆ : Base w s₆.heap := B₀.ext F₆.keep
  have H₆ : HeadAt s₆.heap x L := (H.ext k0).ext F₆.keep
  have M6 : Sm s s₆ := (((M2.trans' M₃).trans' M₄).trans' ⟨M₆.gens, M₆.os⟩)
  refine wpAny_execs_cons (wpAny_Expr_any (mB1 (T := "list") (id := "list.append") F.plainAttrs_list slot_list_append F.type_list_append (Attribute_name (nmF F₆ a1 (head_list B₆ H₆ ?_) (by kernel_rfl)))))
  have hL6 : s₆.heap.PlainList L (Ts.map Value.ref).toArray := (hpl.at fun o e => k0 _ _ e).at fun o e => F₆.keep _ _ e
  refine ⟨hL6.isList.typeIs, fun a e => by cases e; obtain ⟨n, ho⟩ := hL6; exact ⟨_, ho, rfl⟩, wpAny_Tuple_spliced (spliced_cons ?_)⟩
  refine convE (s := { s₆ with toks := _ }) (b := true) F₆ B₆ hd a1 (by kernel_rfl) H₆ (fun Q' q => nmF F₆ a2 q (by kernel_rfl)) h1 h1' fun s₇ M₇ k₇ => spliced_cons ?_
  have F₇ := F₆.ext k₇
  refine mB1 (T := "str") (id := "str.join") PySem.F.plainAttrs_str F.slot_str_join F.type_str_join (Constant_str ⟨typeIs_str _ _ _, fun a e => (by cases e), nmF (s := { s₇ with toks := _ }) F₇ a3 ?_ (by kernel_rfl)⟩)
  refine SC.join (s := { s₇ with toks := _ }) (l := [(val, tv)]) (texts := [val]) (hP6.at fun o e => k₇ _ o e).isList rfl ?_ fun t' tk => spliced_nil ⟨by rw [sizeLine_eq]; simp, ?_⟩
  · unfold JoinOk Builtin.Str.tooLong
    have : sizeLine = 16777216 := sizeLine_eq
    simp only [List.foldl_toArray', List.foldl_cons, List.foldl_nil]
    rw [Bool.not_eq_true', decide_eq_false_iff_not, sizeLine_eq]
    have e1 : val.length = val.cps.size := rfl
    have e2 : (Str.ofString "; ").length = 2 := by decide +kernel
    omega
  rw [show Txt.join (Str.ofString "; ") [val] = val from (StrLaws.glued_eq_join _ _).trans (by rfl)]
  have k8 : Ext s₇.heap (s₇.heap.push { cls := .type "tuple", data := .seq ([Value.str name tn, .str val t']).toArray }) := Ext.push' _ _
  have hL8 := (hL6.at fun o e => k₇ _ _ e).at fun o e => k8 _ _ e
  refine wpAny_list_append_plain (s := { s₇ with heap := _, toks := _ }) hL8 (fun h₉ hL9 hs₉ => wpAny_execs_nil ?_) ?_
  · have up : ∀ b o, b ≠ L → s₇.heap.get? b = some o → h₉.get? b = some o := fun b o hb e => hs₉.extBut b o hb (k8 _ _ e)
    have hTL : (s₇.heap.push { cls := .type "tuple", data := .seq ([Value.str name tn, .str val t']).toArray }).IsTuple s₇.heap.objs.size #[.str name tn, .str val t'] := ⟨_, Heap.get?_push_size _ rfl, rfl, _, rfl⟩
    have hLn : s₇.heap.objs.size ≠ L := fun e => by
      obtain ⟨n, ho⟩ := hL6.at fun o e => k₇ _ _ e
      exact Nat.lt_irrefl _ (e ▸ Heap.lt_size ho)
    refine h { s₇ with heap := h₉, toks := tk } ⟨M₇.gens.trans M6.gens, M₇.os.trans M6.os⟩ (fun b o hb e => up b o hb (k₇ _ _ (F₆.keep _ _ (k0 _ _ e)))) ⟨Ts ++ [s₇.heap.objs.size], by simpa using hL9, by simp [hlen], fun i T p e1 e2 => ?_⟩
    by_cases hi : i < Ts.length
    · rw [List.getElem?_append_left hi] at e1
      rw [List.getElem?_append_left (hlen ▸ hi)] at e2
      obtain ⟨px, ta, tb, x⟩ := hT i T p e1 e2
      refine ⟨px, ta, tb, x.at fun o e => up T o (fun q => ?_) (k₇ _ _ (F₆.keep _ _ (k0 _ _ e)))⟩
      obtain ⟨oT, hoT, hcT, _⟩ := x
      obtain ⟨n, hoL⟩ := hpl
      rw [q, hoL] at hoT; cases hoT; exact absurd (show Value.type "list" = Value.type "tuple" from hcT) (by decide)
    · have hi' : i = Ts.length := by
        have := (List.getElem?_eq_some_iff.mp e1).1
        rw [List.length_append, List.length_singleton] at this
        omega
      subst hi'
      simp at e1
      rw [hlen] at e2
      simp at e2
      subst e1 e2
      exact ⟨hPP0 _ ((Above.size _).ext fun b o e => k₇ _ _ (F₆.keep _ _ (k0 _ _ e))), tn, t', hTL.at fun o e => hs₉.extBut _ _ hLn e⟩
  · rw [sizeLine_eq]; simp [hlen]; omega
end Zd

namespace Zd
open PySem PySem.W PyProof.Rows PySem.Calls

inductive WordsAre : List Value → List Str → Prop
  | nil : WordsAre [] []
  | cons (x : Str) (t : Tok) {vs : List Value} {xs : List Str} : WordsAre vs xs → WordsAre (.str x t :: vs) (x :: xs)
theorem wordsAre_len : ∀ {vs : List Value} {ns : List Str}, WordsAre vs ns → vs.length = ns.length
  | _, _, .nil => rfl
  | _, _, .cons _ _ h => by simp [wordsAre_len h]
theorem wordsAre_snoc : ∀ {vs : List Value} {ns : List Str} (x : Str) (t : Tok), WordsAre vs ns → WordsAre (vs ++ [.str x t]) (ns ++ [x])
  | _, _, x, t, .nil => .cons x t .nil
  | _, _, x, t, .cons y u h => .cons y u (wordsAre_snoc x t h)
theorem wordsAre_val : ∀ {vs : List Value} {ns : List Str}, WordsAre vs ns → ∀ {i : Nat} {v : Value}, vs[i]? = some v → ∃ n t, ns[i]? = some n ∧ v = .str n t
  | _, _, .nil, i, n, e => by simp at e
  | _, _, .cons m t h, 0, v, e => by
    simp only [List.getElem?_cons_zero, Option.some.injEq] at e
    subst e; exact ⟨m, t, rfl, rfl⟩
  | _, _, .cons m t h, i + 1, n, e => by simpa using wordsAre_val h (i := i) (by simpa using e)
theorem intsAre_snoc : ∀ {vs : List Value} {ns : List Int} (x : Int) (t : Tok), IntsAre vs ns → IntsAre (vs ++ [.int x t]) (ns ++ [x])
  | _, _, x, t, .nil => .cons x t .nil
  | _, _, x, t, .cons y u h => .cons y u (intsAre_snoc x t h)
/-- a list of words -/
def WordsL (h : Heap) (L : Addr) (xs : List Str) : Prop := ∃ vs : List Value, h.PlainList L vs.toArray ∧ WordsAre vs xs
theorem WordsL.ext {h h' : Heap} {L : Addr} {xs : List Str} (a : WordsL h L xs) (k : Ext h h') : WordsL h' L xs := let ⟨vs, a, b⟩ := a; ⟨vs, a.at fun o e => k _ _ e, b⟩
/-- a list of ints -/
def IntsL (h : Heap) (L : Addr) (xs : List Int) : Prop := ∃ vs : List Value, h.PlainList L vs.toArray ∧ IntsAre vs xs
theorem IntsL.ext {h h' : Heap} {L : Addr} {xs : List Int} (a : IntsL h L xs) (k : Ext h h') : IntsL h' L xs := let ⟨vs, a, b⟩ := a; ⟨vs, a.at fun o e => k _ _ e, b⟩

section
variable {w : World} {A : Around} {E : Value → Shared → Prop} {s : Shared} {env : Env}
theorem onTuple {T : Addr} {items : Array Value} {k : Nat} {t : Tok} {x : Value} {Q : Value → Shared → Prop} (hl : s.heap.IsTuple T items) (hk : k < 1000000) (hx : items[k]? = some x) (h : Q x s) : SubscriptOn (model P0 w) A (.ref T) (.int k t) Q E s :=
  ⟨"tuple", _, PyProof.Rows.slot_tuple_getitem.lookup, hl.typeIs, PyProof.Rows.getItem_tuple (j := k) hl (by omega) (by omega) (by
    have hlt : k < items.size := (Array.getElem?_eq_some_iff.mp hx).1
    unfold seqIndex?
    have h1 : ¬ (k : Int) < 0 := by omega
    have h2 : (k : Int) < (items.size : Int) := by omega
    dsimp only
    rw [if_neg h1]
    simp [hlt]) hx h⟩
/-- x.lower() -/
theorem lowerE {o : Expr} {apos pos : Pos} {x : Str} {Q : Value → Shared → Prop} (hx : (Txt.lower x).length < 1000)
    (ho : wpAny (model P0 w) A (eval o env) (fun a s₁ => ∃ t, a = .str x t ∧ ∀ t' k, Q (.str (Txt.lower x) t') { s₁ with toks := k }) E s) (hbase : attributeBase o (Str.ofString "lower") env (eval o env) = eval o env := by rfl) (hline : (apos.endLine == pos.line) = true := by rfl) :
    wpAny (model P0 w) A (eval (.Call (.Attribute o (Str.ofString "lower") apos) [] [] pos) env) Q E s :=
  Call_method0 hbase hline (wpAny_mono ho (fun a s₁ h₁ => by
    obtain ⟨t, rfl, h⟩ := h₁
    exact SB.lower (by unfold Builtin.Str.tooLong; rw [decide_eq_false_iff_not, sizeLine_eq]; omega) (h _ _)) fun _ _ e => e)
end

theorem convE2 {w : World} {A : Around} {E : Value → Shared → Prop} {s : Shared} {env : Env} {h₀ : Heap} {v : Str → Option Value} {x L : Addr} {y : Str} {b : Bool} {e : Expr} {k : Nat} {p1 p2 p3 apos pos : Pos} {Q : Value → Shared → Prop}
    (F : FF env h₀ v s.heap) (B : Base w s.heap) (hA : A.depth < 900) (hself : v (Str.ofString "self") = some (.ref x)) (hheld : Held env (Str.ofString "self") = true) (H : HeadAt s.heap x L)
    (hf : failsOn (if b then codesN else codesV) y.cps = true) (hy : y.cps.size < 1000)
    (he : wpAny (model P0 w) A (eval e env) (fun a s₁ => ∃ t, a = .str y t ∧ Ext s.heap s₁.heap ∧ ∀ s', Sm s₁ s' → Ext s₁.heap s'.heap → Q (.str y t) s') E s)
    (hform : methodCallForm ([e].length + [Keyword.mk (some (Str.ofString "name")) (.Constant (.bool b) k p2) p3].length) (backTo pos (starEach [e] env)) (backToKw pos (keywordEach [Keyword.mk (some (Str.ofString "name")) (.Constant (.bool b) k p2) p3] env)) = true := by rfl)
    (hst : starEach (e :: []) env = (false, eval e env) :: starEach [] env := by rfl)
    (hline : (apos.endLine == pos.line) = true := by rfl) :
    wpAny (model P0 w) A (eval (.Call (.Attribute (.Name (Str.ofString "self") p1) (Str.ofString "_convert_string_type") apos) [e] [⟨some (Str.ofString "name"), .Constant (.bool b) k p2, p3⟩] pos) env) Q E s := by
  refine Call_meth (x := x) (f := 139) (ob := o139 w.params) (fd := fd139) (nmF F hself ⟨rfl, fun pl Q' q => head_method B H (by kernel_rfl) (by kernel_rfl) (by decide +kernel) q, ?_⟩ hheld) rfl hform hline
  refine evalArgs_kw2 rfl ?_ hst
  rw [hst]
  refine spliced_cons (wpAny_mono he (fun a s₁ h₁ => ?_) fun _ _ e => e)
  obtain ⟨t, rfl, k₁, h₁⟩ := h₁
  refine spliced_nil (kwAll_cons (wpAny_Constant_bool (kwAll_nil ⟨⟨k₁ _ _ (B.k 139 _ rfl), rfl⟩, ?_⟩)))
  exact conv_spec (B.ext k₁) hA hf hy h₁

def fd177 : FuncData := ⟨(Str.ofString "get_all"), (Str.ofString "Headers.get_all"), fParams (cst 7), .stmts (fBody (cst 7)), fScope (cst 7), 3, [], .none, .none, .none, .str (Str.ofString "cpy313.wsgiref.headers") 576, none, .ref 176, .none, 0⟩
theorem cd177 {w : World} {h : Heap} (B : Base w h) : ∃ o, h.get? 177 = some o ∧ o.data = .func fd177 ∧ h.CodeRec (.ref 176) (Str.ofString "Headers.get_all") :=
  ⟨_, B.k 177 _ rfl, rfl, 176, _, _, _, rfl, B.k 176 _ rfl, rfl, rfl⟩

theorem take_filter_map {α β : Type} {p : α → Bool} {f : α → β} {xs : List α} {i : Nat} {x : α} (h : xs[i]? = some x) : ((xs.take (i + 1)).filter p).map f = ((xs.take i).filter p).map f ++ (if p x then [f x] else []) := by
  rw [List.take_add_one, h]
  simp only [Option.toList, List.filter_append, List.map_append, List.filter_cons, List.filter_nil]
  cases p x <;> simp

/-- the values whose name is that one -/
def pick (ps : List (Str × Str)) (name : Str) : List Str := (ps.filter fun p : Str × Str => Txt.lower p.1 == name).map fun p : Str × Str => p.2
theorem pick_take {ps : List (Str × Str)} {name : Str} {i : Nat} {p : Str × Str} (h : ps[i]? = some p) : pick (ps.take (i + 1)) name = pick (ps.take i) name ++ (if Txt.lower p.1 == name then [p.2] else []) := take_filter_map h

theorem get_spec {w : World} {A : Around} {E : Value → Shared → Prop} {s : Shared} {Q : Value → Shared → Prop} {x L : Addr} {name : Str} {tn : Tok} {ps : List (Str × Str)} (B : Base w s.heap) (hA : A.depth < 800) (hh : A.handled = none)
    (H : HeadAt s.heap x L) {PP : Addr → Prop} (HL : HdrL s.heap PP L ps) (hps : ps.length ≤ 1000) (hlow : Txt.lower name = name) (hf : failsOn codesN name.cps = true) (hn : name.cps.size < 1000) (hpl : ∀ p ∈ ps, (Txt.lower p.1).length < 1000)
    (h : ∀ s' R, Sm s s' → Ext s.heap s'.heap → Above s.heap R → WordsL s'.heap R (pick ps name) → Q (.ref R) s') :
    wpAny (model P0 w) A (call (.ref 177) [.ref x, .str name tn] []) Q E s := by
  obtain ⟨o, ho, hdat, hcd⟩ := cd177 B
  refine enterF (fd := fd177) (binds := [(Str.ofString "self", .ref x), (Str.ofString "name", .str name tn)]) B (by unfold recursionLimit; omega) ho hdat hcd rfl (BindsTo.of_eq rfl) rfl (fun n => rfl) (by decide +kernel) fun s₁ M₁ F₁ => ?_
  have hd : (A.deeper (callEnvC fd177 s.heap.objs.size 177)).depth < 900 := by show A.depth + 1 < 900; omega
  obtain ⟨Ts, hlist, hlen, hT⟩ := HL
  have hTs : ∀ T ∈ Ts, ∃ o, s.heap.get? T = some o := fun T hm => by
    obtain ⟨i, hi, rfl⟩ := List.getElem_of_mem hm
    obtain ⟨_, ta, tb, o, ho, _⟩ := hT i _ (ps[i]'(hlen ▸ hi)) (List.getElem?_eq_getElem hi) (List.getElem?_eq_getElem _)
    exact ⟨o, ho⟩
  refine wpAny_execs_cons (wpAny_Assign_Name (convE2 (b := true) F₁ (B.ext F₁.keep) hd rfl (by kernel_rfl) (H.ext F₁.keep) hf hn (lowerE (by rw [hlow]; exact hn) (nmF F₁ rfl ⟨_, rfl, fun t' tk => ⟨t', by rw [hlow], fun _ _ e => e, fun s₂ M₂ k₂ => ?_⟩⟩ (by kernel_rfl)))))
  have F₂ := F₁.ext k₂
  refine stF F₂ (by kernel_rfl) fun s₃ M₃ F₃ _ => ?_
  have M3 : Sm s s₃ := ⟨M₃.gens.trans (M₂.gens.trans M₁.gens), M₃.os.trans (M₂.os.trans M₁.os)⟩
  have B₃ : Base w s₃.heap := B.ext F₃.keep
  have hlist3 : s₃.heap.PlainList L (Ts.map Value.ref).toArray := hlist.at fun o e => F₃.keep _ _ e
  have hLP : ¬ Priv (callEnvC fd177 s.heap.objs.size 177) L := by obtain ⟨n, ho⟩ := hlist; exact F₃.notPriv ho
  refine wpAny_execs_cons (wpAny_Return_some ?_)
  refine CompL (ns := [Str.ofString "name"]) (n := (Ts.map Value.ref).toArray.size) (Up := fun i v' => ∃ val, (Ts.map Value.ref).toArray[i]? = some val ∧ v' (Str.ofString "kv") = some val)
    (fun bad i l h => WordsAre l (pick (ps.take i) name)) F₃ (by simp [hlen, sizeLine_eq]; omega) ?_ (fun _ _ _ _ => .nil) (fun _ _ _ _ _ a _ => a) ?_ ?_
  · refine Attribute_name (nmF F₃ rfl (head_list B₃ (H.ext F₃.keep) ?_) (by kernel_rfl))
    refine wpAny_mono (src_list (s := s₃) (s₁ := { s₃ with toks := _ }) (X := fun _ => False) (env := callEnvC fd177 s.heap.objs.size 177) (A := A.deeper _) hh ⟨rfl, rfl⟩ (fun _ _ e => e) hlist3.isList hLP (fun q => q)) (fun it s₄ q => ⟨q.1, q.2.1, SrcF.name F₃ (by decide +kernel) q.2.2⟩) fun _ _ e => e
  · rintro bad C i l s₄ v' hi M₄ k₄ F₄ ⟨val, hval, e1⟩ hv' _ hj E'
    have hi' : i < Ts.length := by simpa using hi
    have eT : Ts[i]? = some Ts[i] := List.getElem?_eq_getElem hi'
    obtain ⟨p, hp⟩ : ∃ p, ps[i]? = some p := ⟨_, List.getElem?_eq_getElem (hlen ▸ hi')⟩
    obtain ⟨_, ta, tb, ht⟩ := hT i _ p eT hp
    have hval : val = .ref Ts[i] := by simp [hi'] at hval; exact hval.symm
    subst hval
    have ht4 : s₄.heap.IsTuple Ts[i] #[.str p.1 ta, .str p.2 tb] := ht.at fun o e => k₄ _ _ (F₃.keep _ _ e)
    refine Tests.one (wpAny_isTrue_Compare1 (lowerE (x := p.1) (hpl p (List.mem_of_getElem? hp)) (SubX (nmF F₄ e1 (wpAny_Constant_int (onTuple (s := { s₄ with toks := _ }) (k := 0) (x := .str p.1 ta) ht4 (by decide) rfl ⟨_, rfl, fun t' tk => ?_⟩)) (by kernel_rfl)))))
    refine nmF (s := { s₄ with toks := _ }) F₄ ((hv' _ (by decide +kernel)).trans rfl) (eq_str (wpAny_truthy_bool ?_)) (by kernel_rfl)
    rw [pick_take hp]
    cases hc : Txt.lower p.1 == name with
    | false =>
      simp only [Bool.false_eq_true, if_false, List.append_nil]
      exact ⟨⟨rfl, rfl⟩, fun _ _ e => e, hj⟩
    | true =>
      simp only [if_true]
      refine SubX (nmF (s := { s₄ with toks := _ }) F₄ e1 (wpAny_Constant_int (onTuple (s := { s₄ with toks := _ }) (k := 1) (x := .str p.2 tb) ht4 (by decide) rfl ⟨⟨rfl, rfl⟩, fun _ _ e => e, wordsAre_snoc _ _ hj⟩)) (by kernel_rfl))
  · intro bad D l s₄ M₄ k₄ hD F₄ hl hj
    refine h s₄ D (M3.trans' M₄) F₄.keep (hD.ext F₃.keep) ⟨l, hl, ?_⟩
    have : (Ts.map Value.ref).toArray.size = ps.length := by simp [hlen]
    rw [this, List.take_length] at hj
    exact hj
end Zd

namespace Zd
open PySem PySem.W PyProof.Rows PySem.Calls

def sameSI (xs ys : List (Str × Int)) : Bool := xs.length == ys.length && xs.all fun kn => valI ys kn.1 == some kn.2
section
variable {w : World} {A : Around} {E : Value → Shared → Prop} {s : Shared}
theorem hitsSI {kb : List (Str × Value)} {ys : List (Str × Int)} (Ib : IntsOf kb ys) : ∀ {ka : List (Str × Value)} {xs : List (Str × Int)}, IntsOf ka xs → KeqHits A s kb ka (xs.all fun kn => valI ys kn.1 == some kn.2)
  | _, _, .nil => .nil
  | _, _, .cons (k := k) (n := n) (t := t) h => by
    have ih := hitsSI Ib h
    rw [List.all_cons]
    rcases Ib.valueAt k with ⟨m, u, a, b⟩ | ⟨a, b⟩
    · have e : PyData.eqv (.int n) (.int m) = (valI ys k == some n) := by
        rw [a]
        show (n == m) = _
        rw [Bool.eq_iff_iff, beq_iff_eq, beq_iff_eq]
        exact ⟨fun q => by rw [q], fun q => (Option.some.inj q).symm⟩
      rw [← e]
      exact .hit b (keq_flat (PyProof.V.Flat.int _ _) (PyProof.V.Flat.int _ _)) ih
    · rw [a]
      exact .miss b
theorem ne_SI {a b : Addr} {xs ys : List (Str × Int)} {Q : Value → Shared → Prop} (ha : (a == sysModules) = false) (hb : (b == sysModules) = false) (Da : DictSI w s.heap a xs) (Db : DictSI w s.heap b ys) (hu : A.units < cLine) (h : Q (.bool (!(sameSI xs ys))) s) :
    wpAny (model P0 w) A (compareOp .NotEq (.ref a) (.ref b)) Q E s := by
  obtain ⟨ka, da, Ia⟩ := Da
  obtain ⟨kb, db, Ib⟩ := Db
  refine keq_ne ha hb da db hu (fun _ => hitsSI Ib Ia) ?_
  rw [Ia.length, Ib.length]
  exact h
end
end Zd

namespace Zd
open PySem PySem.W PyProof.Rows PySem.Calls

section
variable {w : World} {A : Around} {E : Value → Shared → Prop} {s : Shared} {env : Env}
/-- x[l:u], x a name for a word -/
theorem sliceS {value : Expr} {lower upper : Option Expr} {p pos : Pos} {Q : Value → Shared → Prop}
    (h : wpAny (model P0 w) A (eval value env) (fun o s₁ => wpAny (model P0 w) A (evalPart lower env) (fun vl s₂ => wpAny (model P0 w) A (evalPart upper env) (fun vu s₃ =>
      ∃ x t l u, o = .str x t ∧ vl = partValue l ∧ vu = partValue u ∧ x.length ≤ 1000000 ∧ ∀ s' t', Sm s₃ s' → Ext s₃.heap s'.heap → Q (.str (Txt.slice x (l.map (·.1)) (u.map (·.1))) t') s') E s₂) E s₁) E s)
    (ht : ∀ o r, letTemporaryGo value o r = pure () := by intro _ _; rfl) :
    wpAny (model P0 w) A (eval (.Subscript value (.Slice lower upper none p) pos) env) Q E s := by
  refine wpAny_Subscript_str_slice (wpAny_mono h (fun o s₁ h₁ => wpAny_mono h₁ (fun vl s₂ h₂ => wpAny_mono h₂ (fun vu s₃ h₃ => ?_) fun _ _ e => e) fun _ _ e => e) fun _ _ e => e) ht
  obtain ⟨x, t, l, u, rfl, rfl, rfl, hx, hQ⟩ := h₃
  refine ⟨x, t, l, u, rfl, rfl, rfl, post_val_or_str ⟨Nat.le_trans (Txt.slice_le x (l.map (·.1)) (u.map (·.1))) (by rw [sizeLine_eq]; omega), fun t' k => hQ _ t' ⟨rfl, rfl⟩ (Ext.push' _ _)⟩⟩
/-- {k: v} -/
theorem Dict_one {ke ve : Expr} {pos : Pos} {Q : Value → Shared → Prop}
    (h : wpAny (model P0 w) A (eval ke env) (fun kv s₁ => wpAny (model P0 w) A (eval ve env) (fun vv s₂ => ∃ k t n u, kv = .str k t ∧ vv = .int n u ∧ Ext (s.heap.push { cls := .type "dict", data := .dict #[] }) s₂.heap ∧
      ∀ s', Sm s₂ s' → (∀ b o, b ≠ s.heap.objs.size → s₂.heap.get? b = some o → s'.heap.get? b = some o) → DictSI w s'.heap s.heap.objs.size [(k, n)] → Q (.ref s.heap.objs.size) s') E s₁) E { s with heap := s.heap.push { cls := .type "dict", data := .dict #[] } }) :
    wpAny (model P0 w) A (eval (.Dict [some ke] [ve] pos) env) Q E s := by
  refine wpAny_Dict_walk (knd := strKind P0 w) rfl rfl (by simp) (by simp) (evalPairs_cons (wpAny_mono h (fun kv s₁ h₁ => ?_) fun _ _ e => e))
  refine wpAny_bind (wpAny_mono h₁ (fun vv s₂ h₂ => wpAny_bind (wpAny_standAt (wpAny_pure (evalPairs_nil ?_)))) fun _ _ e => e)
  obtain ⟨k, t, n, u, rfl, rfl, k₂, hQ⟩ := h₂
  refine ⟨[(k, .int n u)], ?_, (Heap.DictOf.new s.heap).at fun o e => k₂ _ _ e, fun h' hd hs => hQ _ ⟨rfl, rfl⟩ (fun b o hb e => hs.extBut b o hb e) ⟨_, hd, .cons .nil⟩⟩
  exact ⟨strKind_is P0 w k t, rfl, trivial⟩
end
end Zd

namespace Zd
open PySem PySem.W PyProof.Rows PySem.Calls

abbrev DD := List (Str × Int)
def one1 (c : Nat) : Str := ⟨#[c]⟩
def row0 (two : Str) : List DD := (List.range (two.cps.size + 1)).map fun j : Nat => [(Txt.slice two none (some (j : Int)), 1)]
def madeAt (ahead r : List DD) (c : Nat) (two : Str) (j : Nat) : DD :=
  let m := addC (grownI (ahead.getD (j + 1) []) (one1 c)) (grownI (r.getD j []) (one1 (two.cps.getD j 0)))
  if c = two.cps.getD j 0 then addC m (grownI (ahead.getD j []) (one1 c)) else m
def rowTo (ahead : List DD) (c : Nat) (two : Str) : Nat → List DD
  | 0 => [grownI (ahead.getD 0 []) (one1 c)]
  | j + 1 => rowTo ahead c two j ++ [madeAt ahead (rowTo ahead c two j) c two j]
def rowsOf (one two : List Nat) : List DD := one.foldl (fun row c => rowTo row c ⟨two.toArray⟩ two.length) (row0 ⟨two.toArray⟩)
def okRow (row : List DD) : Bool := row.all fun xs => decide (xs.length ≤ 1000) && xs.all fun kn => decide (kn.1.length ≤ 100)

theorem rowTo_len (ahead : List DD) (c : Nat) (two : Str) : ∀ j, (rowTo ahead c two j).length = j + 1
  | 0 => rfl
  | j + 1 => by rw [rowTo, List.length_append, rowTo_len ahead c two j]; rfl
theorem rowTo_pre (ahead : List DD) (c : Nat) (two : Str) : ∀ (j n : Nat), j ≤ n → ∀ xs ∈ rowTo ahead c two j, xs ∈ rowTo ahead c two n
  | j, n, h, xs, hx => by
    induction n with
    | zero => have : j = 0 := by omega
              subst this; exact hx
    | succ n ih =>
      by_cases e : j = n + 1
      · subst e; exact hx
      · rw [rowTo]; exact List.mem_append_left _ (ih (by omega))
theorem grownI_len (xs : DD) (c : Str) : (grownI xs c).length ≤ xs.length := by
  unfold grownI
  have : ∀ (l acc : DD), (l.foldl (fun acc kn => storedI acc (kn.1 ++ c) kn.2) acc).length ≤ acc.length + l.length := by
    intro l
    induction l with
    | nil => intro acc; exact Nat.le_refl _
    | cons y r ih =>
      intro acc
      have h1 := ih (storedI acc (y.1 ++ c) y.2)
      have h2 := storedI_len acc (y.1 ++ c) y.2
      rw [List.foldl_cons, List.length_cons]; omega
  simpa using this xs []

/-- a list of dicts -/
def DictsAt (w : World) (h : Heap) (P : Addr → Prop) (As : List Addr) (dss : List DD) : Prop :=
  As.length = dss.length ∧ ∀ (i : Nat) (a : Addr) (xs : DD), As[i]? = some a → dss[i]? = some xs → DictSI w h a xs ∧ (a == sysModules) = false ∧ P a
theorem DictsAt.nil {w : World} {h : Heap} {P : Addr → Prop} : DictsAt w h P [] [] := ⟨rfl, fun i a xs e => by simp at e⟩
theorem DictsAt.snoc {w : World} {h : Heap} {P : Addr → Prop} {As : List Addr} {dss : List DD} {a : Addr} {xs : DD} (D : DictsAt w h P As dss) (d : DictSI w h a xs) (hs : (a == sysModules) = false) (hp : P a) : DictsAt w h P (As ++ [a]) (dss ++ [xs]) := by
  refine ⟨by simp [D.1], fun i b ys e1 e2 => ?_⟩
  by_cases hi : i < As.length
  · rw [List.getElem?_append_left hi] at e1
    rw [List.getElem?_append_left (D.1 ▸ hi)] at e2
    exact D.2 i b ys e1 e2
  · have hi' : i = As.length := by
      have := (List.getElem?_eq_some_iff.mp e1).1
      rw [List.length_append, List.length_singleton] at this
      omega
    subst hi'
    simp at e1
    rw [D.1] at e2
    simp at e2
    subst e1 e2
    exact ⟨d, hs, hp⟩
theorem DictsAt.step {w : World} {h h' : Heap} {P P' : Addr → Prop} {As : List Addr} {dss : List DD} (D : DictsAt w h P As dss) (k : ∀ a o, P a → h.get? a = some o → h'.get? a = some o) (hp : ∀ a, (∃ o, h.get? a = some o) → P a → P' a) : DictsAt w h' P' As dss :=
  ⟨D.1, fun i a xs e1 e2 => let ⟨x, y, z⟩ := D.2 i a xs e1 e2; ⟨x.at fun o e => k a o z e, y, hp a x.lt z⟩⟩

def fd264 : FuncData := ⟨(Str.ofString "_law_laid_together"), (Str.ofString "_law_laid_together"), fParams (st 22), .stmts (fBody (st 22)), fScope (st 22), 3, [], .none, .none, .none, .str (Str.ofString "law_zd0012_01") 839, none, .ref 263, .none, 0⟩
theorem cd264 {w : World} {h : Heap} (B : Base w h) : ∃ o, h.get? 264 = some o ∧ o.data = .func fd264 ∧ h.CodeRec (.ref 263) (Str.ofString "_law_laid_together") :=
  ⟨_, B.k 264 _ rfl, rfl, 263, _, _, _, rfl, B.k 263 _ rfl, rfl, rfl⟩
def words1 : List (List Nat) := let l := [54, 55, 57]; (l.map fun a => [a]) ++ (l.flatMap fun a => l.map fun b => [a, b]) ++ (l.flatMap fun a => l.flatMap fun b => l.map fun c => [a, b, c])
def words2 : List (List Nat) := let l := [54, 55, 57]; (l.flatMap fun a => l.map fun b => [a, b])
end Zd

namespace Zd
open PySem PySem.W PyProof.Rows PySem.Calls

theorem okRow_mem {row : List DD} (h : okRow row = true) {xs : DD} (hx : xs ∈ row) : xs.length ≤ 1000 ∧ ∀ kn ∈ xs, kn.1.length ≤ 1000 := by
  unfold okRow at h
  have := List.all_eq_true.mp h xs hx
  simp only [Bool.and_eq_true, decide_eq_true_eq] at this
  refine ⟨this.1, fun kn hkn => ?_⟩
  have := List.all_eq_true.mp this.2 kn hkn
  have := of_decide_eq_true this
  omega

theorem onListNeg {w : World} {A : Around} {E : Value → Shared → Prop} {s : Shared} {l : Addr} {items : Array Value} {t : Tok} {x : Value} {Q : Value → Shared → Prop} (hl : s.heap.IsList l items) (h1 : 1 ≤ items.size) (hx : items[items.size - 1]? = some x) (h : Q x s) : SubscriptOn (model P0 w) A (.ref l) (.int (-1) t) Q E s :=
  ⟨"list", _, slot_list_getitem.lookup, hl.typeIs, wpAny_getItem_list_neg hl (by decide) (by omega) (by decide) (by rw [show ((-1 : Int) + items.size).toNat = items.size - 1 by omega]; exact hx) h⟩

def rowsUpTo (one two : Str) : Nat → List DD
  | 0 => row0 two
  | i + 1 => rowTo (rowsUpTo one two i) (one.cps.getD i 0) two two.cps.size

abbrev Gives1 (w : World) (A : Around) (E : Value → Shared → Prop) (env : Env) (e : Expr) (s : Shared) (P : Value → Prop) : Prop :=
  ∀ (tk : Nat) (Q : Value → Shared → Prop), (∀ x tk', P x → Q x { s with toks := tk' }) → wpAny (model P0 w) A (eval e env) Q E { s with toks := tk }

/-- _law_grown(nm[idx], le) -/
theorem grownE {w : World} {A : Around} {E : Value → Shared → Prop} {s : Shared} {env : Env} {h₀ : Heap} {v : Str → Option Value} {Q : Value → Shared → Prop} {nm : Str} {idx le : Expr} {p p1 p2 pos : Pos} {L : Addr} {As : List Addr} {dss : List DD} {P : Addr → Prop} {k c : Nat}
    (F : FF env h₀ v s.heap) (B : Base w s.heap) (hd : A.depth < 900) (hh : A.handled = none) (hv : v nm = some (.ref L)) (held : Held env nm = true) (hl : s.heap.PlainList L (As.map Value.ref).toArray) (D : DictsAt w s.heap P As dss) (hk : k < dss.length) (hkk : k < 1000) (hok : okRow dss = true)
    (hidx : Gives1 w A E env idx s fun x => ∃ t, x = .int k t) (hle : Gives1 w A E env le s fun x => ∃ t, x = .str (one1 c) t)
    (h : ∀ s' r, Sm s s' → Ext s.heap s'.heap → s.heap.get? r = none → (r == sysModules) = false → DictSI w s'.heap r (grownI (dss.getD k []) (one1 c)) → Q (.ref r) s')
    (hk1 : env.scope.kind = .function := by rfl) (hk2 : env.kindOf (Str.ofString "_law_grown") = some .globalImplicit := by kernel_rfl) (hk3 : env.globals = mainGlobals := by rfl) (hnd : (nm == ("__debug__" : Str)) = false := by decide)
    (ht : backTo pos (starEach [.Subscript (.Name nm p1) idx p2, le] env) = [(false, eval (.Subscript (.Name nm p1) idx p2) env), (false, eval le env)] := by rfl)
    (hs : ∀ o i, subscripted idx false o i = operate [o, i] (getItem o i) := by intro _ _; with_unfolding_all rfl) :
    wpAny (model P0 w) A (eval (.Call (.Name (Str.ofString "_law_grown") p) [.Subscript (.Name nm p1) idx p2, le] [] pos) env) Q E s := by
  have hka : k < As.length := D.1 ▸ hk
  obtain ⟨d1, d2, d3⟩ := D.2 k As[k] dss[k] (List.getElem?_eq_getElem _) (List.getElem?_eq_getElem _)
  have hox := okRow_mem hok (List.getElem_mem hk)
  refine callD2 (f := 254) (fun Q' q => nmG B (r := .ref 254) (by kernel_rfl) q hk1 hk2 hk3) (SubX (nmF F hv (hidx s.toks _ fun x tk' hx => ?_) held hnd) hs) ht
  obtain ⟨t, rfl⟩ := hx
  refine onList (s := { s with toks := tk' }) (x := .ref As[k]) hl.isList (by omega) (by simp [hka]) ?_
  refine hle tk' _ fun x tk2 hx => ?_
  obtain ⟨t2, rfl⟩ := hx
  obtain ⟨o, ho, hdat, hcd⟩ := cd254 B
  refine ⟨o, fd254, ⟨ho, hdat⟩, grown_spec (s := { s with toks := tk2 }) B hd hh d2 d1 (by omega) hox.2 (show 1 ≤ 1000 by decide) fun s' r M k1 k2 k3 k4 => ?_⟩
  refine h s' r ⟨M.gens, M.os⟩ k1 k2 k3 ?_
  rw [List.getD_eq_getElem?_getD, List.getElem?_eq_getElem hk]
  exact k4

theorem laid_spec {w : World} {A : Around} {E : Value → Shared → Prop} {s : Shared} {Q : Value → Shared → Prop} {one two : Str} {t1 t2 : Tok} (B : Base w s.heap) (hA : A.depth < 800) (hh : A.handled = none)
    (h1 : one.cps.size ≤ 3) (h2 : two.cps.size = 2) (a1 : one.cps.all (· < 128) = true) (hok : ∀ i, i ≤ one.cps.size → okRow (rowsUpTo one two i) = true)
    (h : ∀ s' r, Sm s s' → Ext s.heap s'.heap → s.heap.get? r = none → (r == sysModules) = false → DictSI w s'.heap r ((rowsUpTo one two one.cps.size).getD two.cps.size []) → Q (.ref r) s') :
    wpAny (model P0 w) A (call (.ref 264) [.str one t1, .str two t2] []) Q E s := by
  obtain ⟨o, ho, hdat, hcd⟩ := cd264 B
  refine enterF (fd := fd264) (binds := [(Str.ofString "one", .str one t1), (Str.ofString "two", .str two t2)]) B (by unfold recursionLimit; omega) ho hdat hcd rfl (BindsTo.of_eq rfl) rfl (fun n => rfl) (by decide +kernel) fun s₁ M₁ F₁ => ?_
  have hd : (A.deeper (callEnvC fd264 s.heap.objs.size 264)).depth < 900 := by show A.depth + 1 < 900; omega
  have B₁ : Base w s₁.heap := B.ext F₁.keep
  have hlen2 : (two.length : Int) + 1 = ((3 : Nat) : Int) := by show ((two.cps.size : Nat) : Int) + 1 = _; rw [h2]; rfl
  refine wpAny_execs_cons ?_
  refine CompL_assign (ns := [Str.ofString "two"]) (n := 3) (Up := fun i v' => ∃ val, (∃ t, val = .int i t) ∧ v' (Str.ofString "j") = some val)
    (fun bad i l h => ∃ As : List Addr, l = As.map Value.ref ∧ DictsAt w h (fun a => ¬ bad a ∧ ¬ Priv (callEnvC fd264 s.heap.objs.size 264) a ∧ s.heap.get? a = none) As ((row0 two).take i)) F₁ (by rw [sizeLine_eq]; decide) ?_
    (fun bad h _ _ => ⟨[], rfl, .nil⟩) (fun bad i l h h₁ ⟨As, e, D⟩ k => ⟨As, e, D.step (fun a o p q => k a o p.1 p.2.1 q) fun a _ p => p⟩) ?_ (by kernel_rfl) ?_
  · refine callT1 (T := "range") (fun Q' q => nmB B₁ (by kernel_rfl) (by decide +kernel) q rfl (by kernel_rfl) rfl rfl) (wpAny_BinOp (callB1 (id := "len") (fun Q' q => nmB B₁ (by kernel_rfl) (by decide +kernel) q rfl (by kernel_rfl) rfl rfl)
      (nmF F₁ rfl (len_str (by rw [show two.length = 2 from h2]; decide) (wpAny_Constant_int (addI fun t3 k3 => ?_))) (by kernel_rfl))))
    rw [hlen2]
    refine wpAny_mono (src_range (s := s₁) (s₁ := { s₁ with toks := k3 }) (X := fun _ => False) (env := callEnvC fd264 s.heap.objs.size 264) (A := A.deeper _) hh ⟨rfl, rfl⟩ (fun _ _ e => e)) (fun xv s₄ q => wpAny_mono q (fun it s₅ q => ⟨q.1, q.2.1, SrcF.name F₁ (by decide +kernel) q.2.2⟩) fun _ _ e => e) fun _ _ e => e
  · rintro bad C i l s₂ v' hi M₂ k₂ F₂ ⟨val, ⟨tj, rfl⟩, e1⟩ hv' hbad ⟨As, rfl, D⟩ E'
    refine Tests.nil ?_
    simp only [if_true]
    have FO := F₁.ext k₂
    have hnew : s₂.heap.get? s₂.heap.objs.size = none := Heap.fresh (Nat.le_refl _)
    have F₃ := F₂.ext (Ext.push' s₂.heap { cls := .type "dict", data := .dict #[] })
    refine Dict_one (sliceS (nmF (s := { s₂ with heap := _ }) F₃ ((hv' _ (by decide +kernel)).trans rfl) (evalPart_none_step (evalPart_some_step (nmF F₃ e1 ⟨two, t2, none, some ((i : Int), tj), rfl, rfl, rfl, by rw [show two.length = 2 from h2]; decide, fun s₃ t3 M₃ k₃ => wpAny_Constant_int ⟨_, _, _, _, rfl, rfl, k₃, fun s₄ M₄ k₄ D₄ => ?_⟩⟩ (by kernel_rfl)))) (by kernel_rfl)))
    have kS : Ext s₂.heap s₄.heap := fun b o e => k₄ b o (Nat.ne_of_lt (Heap.lt_size e)) (k₃ _ _ (Ext.push' _ _ _ _ e))
    refine ⟨⟨M₄.gens.trans M₃.gens, M₄.os.trans M₃.os⟩, kS, As ++ [s₂.heap.objs.size], by simp, ?_⟩
    have hrow : (row0 two).take (i + 1) = (row0 two).take i ++ [[(Txt.slice two none (some (i : Int)), 1)]] := by
      rw [List.take_add_one]
      congr 1
      unfold row0
      rw [List.getElem?_map, List.getElem?_range (by rw [h2]; exact hi)]
      rfl
    rw [hrow]
    exact (D.step (fun a o _ e => kS a o e) fun a _ p => p).snoc D₄ (B₁.above ((Above.size _).ext k₂)) ⟨fun q => (by obtain ⟨o, ho⟩ := hbad _ q; rw [hnew] at ho; cases ho), FO.size_notPriv (Nat.le_refl _), none_of_ext FO.keep hnew⟩
  · intro bad D l s₂ M₂ hD F₂ k₂ hl ⟨As, hAs, HD⟩
    subst hAs
    rw [show (row0 two).take 3 = row0 two from List.take_of_length_le (by unfold row0; rw [List.length_map, List.length_range, h2]; decide)] at HD
    have hD0 : s.heap.get? D = none := (hD.ext F₁.keep).none
    have hDP : ¬ Priv (callEnvC fd264 s.heap.objs.size 264) D := fun p => by obtain ⟨o, ho⟩ := F₁.old D p; rw [hD.none] at ho; cases ho
    have M2 : Sm s s₂ := M₁.trans' M₂
    refine wpAny_execs_cons ?_
    refine For_rule (n := one.cps.size) (P := SignAt one) (fun _ => False) (fun Z i v h => ∃ L As, v (Str.ofString "line") = some (.ref L) ∧ v (Str.ofString "two") = some (.str two t2) ∧ h.PlainList L (As.map Value.ref).toArray ∧
        DictsAt w h (fun a => ¬ Z a ∧ ¬ Priv (callEnvC fd264 s.heap.objs.size 264) a ∧ s.heap.get? a = none) As (rowsUpTo one two i) ∧ ¬ Z L ∧ ¬ Priv (callEnvC fd264 s.heap.objs.size 264) L ∧ s.heap.get? L = none)
      (A := A.deeper _) F₂ (fun _ q => q.elim) (nmF F₂ rfl (src_str hh a1) (by kernel_rfl)) ?_ (by kernel_rfl) ?_ ?_ ?_
    · rintro Z h hZ k
      have nz : ∀ a, (∃ o, s₂.heap.get? a = some o) → ¬ Z a := fun a ⟨o, ho⟩ q => by rw [hZ a q] at ho; cases ho
      exact ⟨D, As, rfl, rfl, hl.at fun o e => k _ _ e, HD.step (fun a o _ e => k _ _ e) fun a ho p => ⟨nz a ho, p.2⟩, nz D (by obtain ⟨n, ho⟩ := hl; exact ⟨_, ho⟩), hDP, hD0⟩
    · rintro Z i v h h₁ hi ⟨L, As, x1, x2, x3, x4, x5, x6, x7⟩ k
      exact ⟨L, As, x1, x2, x3.at fun o e => k _ _ x6 x5 e, x4.step (fun a o p e => k _ _ p.2.1 p.1 e) (fun a _ p => p), x5, x6, x7⟩
    · rintro Z i val s₃ v hi ⟨c, u, hc, rfl⟩ M₃ hZ2 hZ3 F₃ ⟨L, As, x1, x2, x3, x4, x5, x6, x7⟩ E'
      have hc1 : one.cps.getD i 0 = c := by rw [Array.getD_eq_getD_getElem?, hc]; rfl
      have hrl : (rowsUpTo one two i).length = 3 := by
        cases i with
        | zero => unfold rowsUpTo row0; rw [List.length_map, List.length_range, h2]
        | succ n => unfold rowsUpTo; rw [rowTo_len, h2]
      have hokr : okRow (rowsUpTo one two i) = true := hok i (Nat.le_of_lt hi)
      have hokn : okRow (rowTo (rowsUpTo one two i) c two two.cps.size) = true := by
        have := hok (i + 1) hi
        unfold rowsUpTo at this; rw [hc1] at this; exact this
      have B₃ : Base w s₃.heap := B.ext F₃.keep
      -- ahead = line
      refine wpAny_execs_cons (wpAny_Assign_Name (nmF F₃ (x := .ref L) (by rw [if_neg (by decide)]; exact x1) (stF F₃ (by kernel_rfl) fun s₄ M₄ F₄ S₄ => ?_) (by kernel_rfl)))
      have x3' : s₄.heap.PlainList L (As.map Value.ref).toArray := x3.at fun o e => S₄ _ _ x6 e
      have x4' := x4.step (h' := s₄.heap) (P' := fun a => ¬ Z a ∧ ¬ Priv (callEnvC fd264 s.heap.objs.size 264) a ∧ s.heap.get? a = none) (fun a o p e => S₄ _ _ p.2.1 e) (fun a _ p => p)
      have g1 : (fun y => if y = Str.ofString "ahead" then some (Value.ref L) else if y = Str.ofString "letter" then some (.str ⟨#[c]⟩ u) else v y) (Str.ofString "ahead") = some (.ref L) := if_pos rfl
      have g2 : (fun y => if y = Str.ofString "ahead" then some (Value.ref L) else if y = Str.ofString "letter" then some (.str ⟨#[c]⟩ u) else v y) (Str.ofString "letter") = some (.str (one1 c) u) := by
        show (if _ then _ else _) = _
        rw [if_neg (by decide), if_pos rfl]; rfl
      have g3 : (fun y => if y = Str.ofString "ahead" then some (Value.ref L) else if y = Str.ofString "letter" then some (.str ⟨#[c]⟩ u) else v y) (Str.ofString "two") = some (.str two t2) := by
        show (if _ then _ else if _ then _ else _) = _
        rw [if_neg (by decide), if_neg (by decide)]; exact x2
      generalize (fun y => if y = Str.ofString "ahead" then some (Value.ref L) else if y = Str.ofString "letter" then some (.str ⟨#[c]⟩ u) else v y) = v4 at F₄ g1 g2 g3
      have B₄ : Base w s₄.heap := B.ext F₄.keep
      -- line = [_law_grown(ahead[0], letter)]
      refine wpAny_execs_cons (wpAny_Assign_Name (wpAny_List_spliced (spliced_cons (grownE (k := 0) (c := c) (A := A.deeper _) F₄ B₄ hd hh g1 (by kernel_rfl) x3' x4' (by rw [hrl]; decide) (by decide) hokr
        (fun tk Q q => wpAny_Constant_int (q _ _ ⟨_, rfl⟩)) (fun tk Q q => nmF (s := { s₄ with toks := tk }) F₄ g2 (q _ tk ⟨_, rfl⟩) (by kernel_rfl)) fun s₅ r0 M₅ k₅ r1 r2 r3 => spliced_nil ⟨by simp [sizeLine_eq], ?_⟩))))
      have F₅ := F₄.ext k₅
      have hL2 : (s₅.heap.push { cls := .type "list", data := .seq ([Value.ref r0]).toArray }).PlainList s₅.heap.objs.size #[.ref r0] := ⟨_, Heap.get?_push_size _ rfl⟩
      have hL2P : ¬ Priv (callEnvC fd264 s.heap.objs.size 264) s₅.heap.objs.size := F₅.size_notPriv (Nat.le_refl _)
      have hL2A : Above s₅.heap s₅.heap.objs.size := Above.size _
      have F₆ := F₅.ext (Ext.push' s₅.heap { cls := .type "list", data := .seq ([Value.ref r0]).toArray })
      have k₆ := Ext.push' s₅.heap { cls := .type "list", data := .seq ([Value.ref r0]).toArray }
      generalize s₅.heap.objs.size = L2 at hL2 hL2P hL2A ⊢
      generalize s₅.heap.push { cls := .type "list", data := .seq ([Value.ref r0]).toArray } = H6 at hL2 F₆ k₆ ⊢
      refine stF (s := { s₅ with heap := H6 }) F₆ (by kernel_rfl) fun s₇ M₇ F₇ S₇ => ?_
      have p1 : (fun y => if y = Str.ofString "line" then some (Value.ref L2) else v4 y) (Str.ofString "line") = some (.ref L2) := if_pos rfl
      have p2 : (fun y => if y = Str.ofString "line" then some (Value.ref L2) else v4 y) (Str.ofString "ahead") = some (.ref L) := by
        show (if _ then _ else _) = _
        rw [if_neg (by decide)]; exact g1
      have p3 : (fun y => if y = Str.ofString "line" then some (Value.ref L2) else v4 y) (Str.ofString "letter") = some (.str (one1 c) u) := by
        show (if _ then _ else _) = _
        rw [if_neg (by decide)]; exact g2
      have p4 : (fun y => if y = Str.ofString "line" then some (Value.ref L2) else v4 y) (Str.ofString "two") = some (.str two t2) := by
        show (if _ then _ else _) = _
        rw [if_neg (by decide)]; exact g3
      generalize (fun y => if y = Str.ofString "line" then some (Value.ref L2) else v4 y) = v7 at F₇ p1 p2 p3 p4
      have B₇ : Base w s₇.heap := B.ext F₇.keep
      have up37 : ∀ b o, ¬ Priv (callEnvC fd264 s.heap.objs.size 264) b → s₃.heap.get? b = some o → s₇.heap.get? b = some o := fun b o hp e => S₇ _ _ hp (k₆ _ _ (k₅ _ _ (S₄ _ _ hp e)))
      have hr0P : ¬ Priv (callEnvC fd264 s.heap.objs.size 264) r0 := F₄.nP r1
      have n3 : ∀ b, ¬ Priv (callEnvC fd264 s.heap.objs.size 264) b → s₄.heap.get? b = none → s₃.heap.get? b = none := fun b hp hb => by
        cases e : s₃.heap.get? b with
        | none => rfl
        | some o => rw [S₄ _ _ hp e] at hb; cases hb
      have hL24 : s₄.heap.get? L2 = none := (hL2A.ext k₅).none
      have hL2s : s.heap.get? L2 = none := none_of_ext F₄.keep hL24
      have hL7 : s₇.heap.PlainList L2 #[.ref r0] := hL2.at fun o e => S₇ _ _ hL2P e
      have hr07 : DictSI w s₇.heap r0 (grownI ((rowsUpTo one two i).getD 0 []) (one1 c)) := (r3.ext k₆).at fun o e => S₇ _ _ hr0P e
      have hr0L : r0 ≠ L2 := fun e => by
        obtain ⟨o, ho⟩ := r3.lt
        exact Nat.lt_irrefl _ (e ▸ hL2A r0 o ho)
      have hLL2 : L ≠ L2 := fun e => by
        obtain ⟨n, ho⟩ := x3'
        rw [e, hL24] at ho; cases ho
      have hAL2 : ∀ a, (∃ o, s₄.heap.get? a = some o) → a ≠ L2 := fun a ⟨o, ho⟩ e => by rw [e, hL24] at ho; cases ho
      refine wpAny_execs_cons ?_
      refine For_rule (n := 2) (P := fun i v => ∃ t, v = .int i t) (fun a => a = L2) (fun Z' j v h => (v (Str.ofString "line") = some (.ref L2) ∧ v (Str.ofString "ahead") = some (.ref L) ∧ v (Str.ofString "letter") = some (.str (one1 c) u) ∧ v (Str.ofString "two") = some (.str two t2)) ∧
          h.PlainList L (As.map Value.ref).toArray ∧ DictsAt w h (fun a => ¬ Z' a ∧ ¬ Priv (callEnvC fd264 s.heap.objs.size 264) a ∧ a ≠ L2) As (rowsUpTo one two i) ∧ (¬ Z' L ∧ ¬ Z' L2 ∧ ∀ b, Z' b → s₇.heap.get? b = none) ∧
          (∀ b o, ¬ Priv (callEnvC fd264 s.heap.objs.size 264) b → b ≠ L2 → s₇.heap.get? b = some o → h.get? b = some o) ∧
          ∃ Bs, h.PlainList L2 (Bs.map Value.ref).toArray ∧ DictsAt w h (fun a => ¬ Z' a ∧ ¬ Priv (callEnvC fd264 s.heap.objs.size 264) a ∧ a ≠ L2 ∧ s₃.heap.get? a = none ∧ s.heap.get? a = none) Bs (rowTo (rowsUpTo one two i) c two j))
        (A := A.deeper _) F₇ (fun a q => q ▸ (by obtain ⟨n, ho⟩ := hL7; exact ⟨_, ho⟩)) ?_ ?_ (by kernel_rfl) ?_ ?_ ?_
      · refine callT1 (T := "range") (fun Q' q => nmB B₇ (by kernel_rfl) (by decide +kernel) q rfl (by kernel_rfl) rfl rfl) (callB1 (id := "len") (fun Q' q => nmB B₇ (by kernel_rfl) (by decide +kernel) q rfl (by kernel_rfl) rfl rfl)
          (nmF F₇ p4 (len_str (by rw [show two.length = 2 from h2]; decide) ?_) (by kernel_rfl)))
        rw [show (two.length : Int) = ((2 : Nat) : Int) by rw [show two.length = 2 from h2]]
        exact src_range (s := s₇) (s₁ := { s₇ with toks := _ }) (env := callEnvC fd264 s.heap.objs.size 264) (A := A.deeper _) hh ⟨rfl, rfl⟩ (fun _ _ e => e)
      · rintro Z' h hZ k
        have nz : ∀ a, (∃ o, s₇.heap.get? a = some o) → ¬ Z' a := fun a ⟨o, ho⟩ q => by rw [hZ a q] at ho; cases ho
        refine ⟨⟨p1, p2, p3, p4⟩, x3'.at fun o e => k _ _ (S₇ _ _ x6 (k₆ _ _ (k₅ _ _ e))), x4'.step (fun a o p e => k _ _ (S₇ _ _ p.2.1 (k₆ _ _ (k₅ _ _ e)))) fun a ho p => ⟨nz a (by obtain ⟨o, ho⟩ := ho; exact ⟨o, S₇ _ _ p.2.1 (k₆ _ _ (k₅ _ _ ho))⟩), p.2.1, hAL2 a ho⟩,
          ⟨nz L (by obtain ⟨n, ho⟩ := x3'; exact ⟨_, S₇ _ _ x6 (k₆ _ _ (k₅ _ _ ho))⟩), nz L2 (by obtain ⟨n, ho⟩ := hL7; exact ⟨_, ho⟩), hZ⟩, fun b o _ _ e => k _ _ e, [r0], hL7.at fun o e => k _ _ e, ?_⟩
        exact DictsAt.nil.snoc (hr07.ext k) r2 ⟨nz r0 hr07.lt, hr0P, hr0L, n3 r0 hr0P r1, none_of_ext F₄.keep r1⟩
      · rintro Z' j v h h₁ hj ⟨q1, q2, q3, ⟨q4, q5, q6⟩, q7, Bs, q8, q9⟩ k
        exact ⟨q1, q2.at fun o e => k _ _ x6 q4 e, q3.step (fun a o p e => k _ _ p.2.1 p.1 e) (fun a _ p => p), ⟨q4, q5, q6⟩, fun b o hp hb e => k _ _ hp (fun z => by rw [q6 b z] at e; cases e) (q7 b o hp hb e), Bs, q8.at fun o e => k _ _ hL2P q5 e, q9.step (fun a o p e => k _ _ p.2.1 p.1 e) (fun a _ p => p)⟩
      · rintro Z' j val s₈ v hj ⟨tj, rfl⟩ M₈ hz2 hz3 F₈ ⟨⟨q1, q1', q1'', q1'''⟩, q2, q3, ⟨q4, q5, q6⟩, q7, Bs, q8, q9⟩ E''
        have m0 : (fun y => if y = Str.ofString "j" then some (Value.int j tj) else v y) (Str.ofString "j") = some (.int j tj) := if_pos rfl
        have m1 : (fun y => if y = Str.ofString "j" then some (Value.int j tj) else v y) (Str.ofString "line") = some (.ref L2) := by
          show (if _ then _ else _) = _
          rw [if_neg (by decide)]; exact q1
        have m2 : (fun y => if y = Str.ofString "j" then some (Value.int j tj) else v y) (Str.ofString "ahead") = some (.ref L) := by
          show (if _ then _ else _) = _
          rw [if_neg (by decide)]; exact q1'
        have m3 : (fun y => if y = Str.ofString "j" then some (Value.int j tj) else v y) (Str.ofString "letter") = some (.str (one1 c) u) := by
          show (if _ then _ else _) = _
          rw [if_neg (by decide)]; exact q1''
        have m4 : (fun y => if y = Str.ofString "j" then some (Value.int j tj) else v y) (Str.ofString "two") = some (.str two t2) := by
          show (if _ then _ else _) = _
          rw [if_neg (by decide)]; exact q1'''
        generalize (fun y => if y = Str.ofString "j" then some (Value.int j tj) else v y) = v8 at F₈ m0 m1 m2 m3 m4
        have B₈ : Base w s₈.heap := B.ext F₈.keep
        have hokj : okRow (rowTo (rowsUpTo one two i) c two j) = true := by
          refine List.all_eq_true.mpr fun xs hx => ?_
          exact List.all_eq_true.mp hokn xs (rowTo_pre _ _ _ j _ (by rw [h2]; omega) xs hx)
        have hjl : j < (rowTo (rowsUpTo one two i) c two j).length := by rw [rowTo_len]; omega
        have hc2 : two.cps[j]? = some (two.cps.getD j 0) := by
          rw [Array.getD_eq_getD_getElem?, Array.getElem?_eq_getElem (by rw [h2]; exact hj)]; rfl
        have b1 := okRow_mem hokr (List.getElem_mem (show j + 1 < (rowsUpTo one two i).length by rw [hrl]; omega))
        have b2 := okRow_mem hokj (List.getElem_mem hjl)
        have b3 := okRow_mem hokr (List.getElem_mem (show j < (rowsUpTo one two i).length by rw [hrl]; omega))
        have e1 : (rowsUpTo one two i).getD (j + 1) [] = (rowsUpTo one two i)[j + 1]'(by rw [hrl]; omega) := by rw [List.getD_eq_getElem?_getD, List.getElem?_eq_getElem]; rfl
        have e2 : (rowTo (rowsUpTo one two i) c two j).getD j [] = (rowTo (rowsUpTo one two i) c two j)[j] := by rw [List.getD_eq_getElem?_getD, List.getElem?_eq_getElem]; rfl
        have e3 : (rowsUpTo one two i).getD j [] = (rowsUpTo one two i)[j]'(by rw [hrl]; omega) := by rw [List.getD_eq_getElem?_getD, List.getElem?_eq_getElem]; rfl
        have l1 : (grownI ((rowsUpTo one two i).getD (j + 1) []) (one1 c)).length ≤ 1000 := Nat.le_trans (grownI_len _ _) (by rw [e1]; exact b1.1)
        have l2 : (grownI ((rowTo (rowsUpTo one two i) c two j).getD j []) (one1 (two.cps.getD j 0))).length ≤ 1000 := Nat.le_trans (grownI_len _ _) (by rw [e2]; exact b2.1)
        have l3 : (grownI ((rowsUpTo one two i).getD j []) (one1 c)).length ≤ 1000 := Nat.le_trans (grownI_len _ _) (by rw [e3]; exact b3.1)
        obtain ⟨oa, hoa, hda, hca⟩ := cd87 B₈
        refine wpAny_execs_cons (wpAny_Assign_Name (callD2 (f := 87) (fun Q' q => nmG B₈ (r := .ref 87) (by kernel_rfl) q rfl (by kernel_rfl) rfl)
          (grownE (k := j + 1) (c := c) (A := A.deeper _) F₈ B₈ hd hh m2 (by kernel_rfl) q2 q3 (by rw [hrl]; omega) (by omega) hokr
            (fun tk Q q => wpAny_BinOp (nmF (s := { s₈ with toks := tk }) F₈ m0 (wpAny_Constant_int (addI fun t' k' => q _ _ ⟨t', by rfl⟩)) (by kernel_rfl)))
            (fun tk Q q => nmF (s := { s₈ with toks := tk }) F₈ m3 (q _ tk ⟨_, rfl⟩) (by kernel_rfl)) fun s₉ ra M₉ k₉ ra1 ra2 ra3 => ?_)))
        have F₉ := F₈.ext k₉
        have q8' : s₉.heap.PlainList L2 (Bs.map Value.ref).toArray := q8.at fun o e => k₉ _ _ e
        have q9' := q9.step (h' := s₉.heap) (P' := fun a => ¬ Z' a ∧ ¬ Priv (callEnvC fd264 s.heap.objs.size 264) a ∧ a ≠ L2 ∧ s₃.heap.get? a = none ∧ s.heap.get? a = none) (fun a o p e => k₉ _ _ e) (fun a _ p => p)
        refine grownE (k := j) (c := two.cps.getD j 0) (A := A.deeper _) F₉ (B.ext F₉.keep) hd hh m1 (by kernel_rfl) q8' q9' hjl (by omega) hokj
            (fun tk Q q => nmF (s := { s₉ with toks := tk }) F₉ m0 (q _ tk ⟨_, rfl⟩) (by kernel_rfl))
            (fun tk Q q => SubX (nmF (s := { s₉ with toks := tk }) F₉ m4 (nmF (s := { s₉ with toks := tk }) F₉ m0 (onStr (s := { s₉ with toks := tk }) (by omega) (by omega) (by simpa using hc2) fun t' n => q _ n ⟨t', rfl⟩) (by kernel_rfl)) (by kernel_rfl))) fun sA rb MA kA rb1 rb2 rb3 => ?_
        have FA := F₉.ext kA
        obtain ⟨oa, hoa, hda, hca⟩ := cd87 (B.ext FA.keep)
        refine ⟨oa, fd87, ⟨hoa, hda⟩, add_callers_spec (B.ext FA.keep) hd hh ra2 rb2 (ra3.ext kA) rb3 (by omega) fun sB rm MB kB rm1 rm2 rm3 => ?_⟩
        have FB := FA.ext kB
        have k8B : Ext s₈.heap sB.heap := (k₉.trans' kA).trans' kB
        refine stF FB (by kernel_rfl) fun sC MC FC SC => ?_
        have M8C : Sm s₈ sC := ⟨MC.gens.trans (MB.gens.trans (MA.gens.trans M₉.gens)), MC.os.trans (MB.os.trans (MA.os.trans M₉.os))⟩
        have n8 : ∀ r, s₈.heap.get? r = none → ¬ Priv (callEnvC fd264 s.heap.objs.size 264) r ∧ r ≠ L2 ∧ s₃.heap.get? r = none ∧ s.heap.get? r = none ∧ ¬ Z' r := fun r hr => by
          have hrP := F₈.nP hr
          have hrL : r ≠ L2 := fun e => by
            obtain ⟨n, ho⟩ := q8
            rw [e, ho] at hr; cases hr
          refine ⟨hrP, hrL, ?_, none_of_ext F₈.keep hr, fun q => by obtain ⟨o, ho⟩ := hz2 r q; rw [hr] at ho; cases ho⟩
          cases e : s₃.heap.get? r with
          | none => rfl
          | some o => rw [q7 r o hrP hrL (up37 r o hrP e)] at hr; cases hr
        have hrmN : s₈.heap.get? rm = none := none_of_ext (k₉.trans' kA) rm1
        have tail : ∀ (sD : Shared) (vD : Str → Option Value) (r : Addr) (h5 : Heap) (tk : Nat), Sm s₈ sD → FF (callEnvC fd264 s.heap.objs.size 264) s.heap vD sD.heap → (∀ b o, ¬ Priv (callEnvC fd264 s.heap.objs.size 264) b → s₈.heap.get? b = some o → sD.heap.get? b = some o) →
            vD (Str.ofString "line") = some (.ref L2) → vD (Str.ofString "ahead") = some (.ref L) → vD (Str.ofString "letter") = some (.str (one1 c) u) → vD (Str.ofString "two") = some (.str two t2) → s₈.heap.get? r = none → (r == sysModules) = false →
            DictSI w sD.heap r (madeAt (rowsUpTo one two i) (rowTo (rowsUpTo one two i) c two j) c two j) → h5.PlainList L2 ((Bs.map Value.ref).toArray.push (.ref r)) → Heap.SameBut L2 sD.heap h5 →
            (Sm s₇ { sD with heap := h5, toks := tk } ∧ Pres (callEnvC fd264 s.heap.objs.size 264) (fun a => a = L2) s₈.heap h5 ∧ ∃ v', FF (callEnvC fd264 s.heap.objs.size 264) s.heap v' h5 ∧ ((v' (Str.ofString "line") = some (.ref L2) ∧ v' (Str.ofString "ahead") = some (.ref L) ∧ v' (Str.ofString "letter") = some (.str (one1 c) u) ∧ v' (Str.ofString "two") = some (.str two t2)) ∧
              h5.PlainList L (As.map Value.ref).toArray ∧ DictsAt w h5 (fun a => ¬ Z' a ∧ ¬ Priv (callEnvC fd264 s.heap.objs.size 264) a ∧ a ≠ L2) As (rowsUpTo one two i) ∧ (¬ Z' L ∧ ¬ Z' L2 ∧ ∀ b, Z' b → s₇.heap.get? b = none) ∧
              (∀ b o, ¬ Priv (callEnvC fd264 s.heap.objs.size 264) b → b ≠ L2 → s₇.heap.get? b = some o → h5.get? b = some o) ∧
              ∃ Bs, h5.PlainList L2 (Bs.map Value.ref).toArray ∧ DictsAt w h5 (fun a => ¬ Z' a ∧ ¬ Priv (callEnvC fd264 s.heap.objs.size 264) a ∧ a ≠ L2 ∧ s₃.heap.get? a = none ∧ s.heap.get? a = none) Bs (rowTo (rowsUpTo one two i) c two (j + 1)))) := by
          intro sD vD r h5 tk MD FD kD z1 z2 z3 z4 hr hrs hrd hp5 hs5
          have k5 : ∀ b o, ¬ Priv (callEnvC fd264 s.heap.objs.size 264) b → b ≠ L2 → s₈.heap.get? b = some o → h5.get? b = some o := fun b o hp hb e => hs5.extBut b o hb (kD b o hp e)
          obtain ⟨n1, n2, n3', n4, n5⟩ := n8 r hr
          refine ⟨⟨MD.gens.trans M₈.gens, MD.os.trans M₈.os⟩, fun b o hp hb e => k5 b o hp hb e, vD, FD.mut hL2P hL2s fun b o hb e => hs5.extBut b o hb e, ⟨z1, z2, z3, z4⟩, q2.at fun o e => k5 _ _ x6 hLL2 e, q3.step (fun a o p e => k5 _ _ p.2.1 p.2.2 e) (fun a _ p => p), ⟨q4, q5, q6⟩,
            fun b o hp hb e => k5 b o hp hb (q7 b o hp hb e), Bs ++ [r], by simpa using hp5, ?_⟩
          rw [rowTo]
          exact (q9.step (fun a o p e => k5 _ _ p.2.1 p.2.2.1 e) (fun a _ p => p)).snoc (hrd.at fun o e => hs5.extBut _ _ n2 e) hrs ⟨n5, n1, n2, n3', n4⟩
        have kC : ∀ b o, ¬ Priv (callEnvC fd264 s.heap.objs.size 264) b → s₈.heap.get? b = some o → sC.heap.get? b = some o := fun b o hp e => SC b o hp (k8B _ _ e)
        have hrmC := rm3.at (h' := sC.heap) fun o e => SC _ _ (n8 rm hrmN).1 e
        have w1 : (fun y => if y = Str.ofString "made" then some (Value.ref rm) else v8 y) (Str.ofString "made") = some (.ref rm) := if_pos rfl
        have w2 : ∀ x : Str, x ≠ Str.ofString "made" → (fun y => if y = Str.ofString "made" then some (Value.ref rm) else v8 y) x = v8 x := fun x hx => if_neg hx
        generalize (fun y => if y = Str.ofString "made" then some (Value.ref rm) else v8 y) = vC at FC w1 w2
        refine wpAny_execs_cons (wpAny_If (wpAny_isTrue_Compare1 (nmF FC ((w2 _ (by decide)).trans m3) (SubX (nmF FC ((w2 _ (by decide)).trans m4) (nmF FC ((w2 _ (by decide)).trans m0) (onStr (c := two.cps.getD j 0) (by omega) (by omega) (by rw [Int.toNat_natCast]; exact hc2) fun t' n => ?_) (by kernel_rfl)) (by kernel_rfl))) (by kernel_rfl))))
        refine eq_str (wpAny_truthy_bool ?_)
        have q8C : sC.heap.PlainList L2 (Bs.map Value.ref).toArray := q8.at fun o e => kC _ _ hL2P e
        have hBs : (Bs.map Value.ref).toArray.size ≤ sizeLine := by
          have := q9.1
          rw [rowTo_len] at this
          rw [List.size_toArray, List.length_map, sizeLine_eq]; omega
        by_cases hcc : c = two.cps.getD j 0
        · rw [if_pos (by rw [← hcc]; exact beq_self_eq_true _)]
          have q2C : sC.heap.PlainList L (As.map Value.ref).toArray := q2.at fun o e => kC _ _ x6 e
          have q3C := q3.step (h' := sC.heap) (P' := fun a => ¬ Z' a ∧ ¬ Priv (callEnvC fd264 s.heap.objs.size 264) a ∧ a ≠ L2) (fun a o p e => kC _ _ p.2.1 e) (fun a _ p => p)
          refine wpAny_execs_cons (wpAny_Assign_Name (callD2 (f := 87) (fun Q' q => nmG (s := { sC with toks := n }) (B.ext FC.keep) (r := .ref 87) (by kernel_rfl) q rfl (by kernel_rfl) rfl) (nmF (s := { sC with toks := n }) FC w1
            (grownE (k := j) (c := c) (A := A.deeper _) (s := { sC with toks := n }) FC (B.ext FC.keep) hd hh ((w2 _ (by decide)).trans m2) (by kernel_rfl) q2C q3C (by rw [hrl]; omega) (by omega) hokr
            (fun tk Q q => nmF (s := { sC with toks := tk }) FC ((w2 _ (by decide)).trans m0) (q _ tk ⟨_, rfl⟩) (by kernel_rfl))
            (fun tk Q q => nmF (s := { sC with toks := tk }) FC ((w2 _ (by decide)).trans m3) (q _ tk ⟨_, rfl⟩) (by kernel_rfl)) fun sF rf MF kF rf1 rf2 rf3 => ?_) (by kernel_rfl))))
          have FF1 := FC.ext kF
          obtain ⟨ob, hob, hdb, hcb⟩ := cd87 (B.ext FF1.keep)
          refine ⟨ob, fd87, ⟨hob, hdb⟩, add_callers_spec (B.ext FF1.keep) hd hh rm2 rf2 (hrmC.ext kF) rf3 (by have := addC_len (grownI ((rowTo (rowsUpTo one two i) c two j).getD j []) (one1 (two.cps.getD j 0))) (grownI ((rowsUpTo one two i).getD (j + 1) []) (one1 c)); omega) fun sG rg MG kG rg1 rg2 rg3 => ?_⟩
          refine stF (FF1.ext kG) (by kernel_rfl) fun sD MD FD SD => wpAny_execs_nil ?_
          have kD : ∀ b o, ¬ Priv (callEnvC fd264 s.heap.objs.size 264) b → s₈.heap.get? b = some o → sD.heap.get? b = some o := fun b o hp e => SD b o hp (kG _ _ (kF _ _ (kC b o hp e)))
          have hrgN : s₈.heap.get? rg = none := by
            cases e : s₈.heap.get? rg with
            | none => rfl
            | some o =>
              by_cases hp : Priv (callEnvC fd264 s.heap.objs.size 264) rg
              · obtain ⟨o', ho'⟩ := FF1.old rg hp
                rw [rg1] at ho'; cases ho'
              · have := kF _ _ (kC rg o hp e)
                rw [rg1] at this; cases this
          have q8D : sD.heap.PlainList L2 (Bs.map Value.ref).toArray := q8.at fun o e => kD _ _ hL2P e
          refine wpAny_execs_cons (wpAny_Expr_any (mB1 (T := "list") (id := "list.append") F.plainAttrs_list slot_list_append F.type_list_append (nmF FD (x := .ref L2) (by rw [if_neg (by decide)]; exact (w2 _ (by decide)).trans m1) ⟨q8D.isList.typeIs, fun a e => (by cases e; obtain ⟨n, ho⟩ := q8D; exact ⟨_, ho, rfl⟩), nmF FD (if_pos rfl) ?_ (by kernel_rfl)⟩ (by kernel_rfl))))
          refine wpAny_list_append_plain q8D (fun h5 hp5 hs5 => wpAny_execs_nil (tail sD _ rg h5 _ ⟨MD.gens.trans (MG.gens.trans (MF.gens.trans M8C.gens)), MD.os.trans (MG.os.trans (MF.os.trans M8C.os))⟩ FD kD (by rw [if_neg (by decide)]; exact (w2 _ (by decide)).trans m1) (by rw [if_neg (by decide)]; exact (w2 _ (by decide)).trans m2)
            (by rw [if_neg (by decide)]; exact (w2 _ (by decide)).trans m3) (by rw [if_neg (by decide)]; exact (w2 _ (by decide)).trans m4) hrgN rg2 (by unfold madeAt; rw [if_pos hcc]; exact rg3.at fun o e => SD _ _ (n8 rg hrgN).1 e) hp5 hs5)) hBs
        · rw [if_neg (by
            intro q
            have q : one1 c = ⟨#[two.cps.getD j 0]⟩ := by simpa using q
            unfold one1 at q
            injection q with q
            injection q with q
            injection q with q
            exact hcc q)]
          refine wpAny_execs_nil (wpAny_execs_cons (wpAny_Expr_any (mB1 (T := "list") (id := "list.append") F.plainAttrs_list slot_list_append F.type_list_append (nmF (s := { sC with toks := n }) FC ((w2 _ (by decide)).trans m1) ⟨q8C.isList.typeIs, fun a e => (by cases e; obtain ⟨n, ho⟩ := q8C; exact ⟨_, ho, rfl⟩), nmF (s := { sC with toks := n }) FC w1 ?_ (by kernel_rfl)⟩ (by kernel_rfl)))))
          refine wpAny_list_append_plain (s := { sC with toks := n }) q8C (fun h5 hp5 hs5 => wpAny_execs_nil (tail sC vC rm h5 _ M8C FC kC ((w2 _ (by decide)).trans m1) ((w2 _ (by decide)).trans m2) ((w2 _ (by decide)).trans m3) ((w2 _ (by decide)).trans m4) hrmN rm2 (by unfold madeAt; rw [if_neg hcc]; exact hrmC) hp5 hs5)) hBs
      · rintro Z' s₈ v M₈ F₈ ⟨⟨q1, q1', q1'', q1'''⟩, q2, q3, ⟨q4, q5, q6⟩, q7, Bs, q8, q9⟩
        have nZ : ∀ a, s₃.heap.get? a = none → ¬ Z a := fun a ha q => by obtain ⟨o, ho⟩ := hZ2 a q; rw [ha] at ho; cases ho
        refine wpAny_execs_nil ⟨((M₃.trans' M₄).trans' M₅).trans' ((⟨M₇.gens, M₇.os⟩ : Sm s₅ s₇).trans' M₈), fun b o hp _ e => q7 b o hp (fun z => by rw [z, n3 L2 hL2P hL24] at e; cases e) (up37 b o hp e), v, F₈, L2, Bs, q1, q1''', q8, ?_, nZ L2 (n3 L2 hL2P hL24), hL2P, hL2s⟩
        have : rowsUpTo one two (i + 1) = rowTo (rowsUpTo one two i) c two 2 := by
          show rowTo _ _ _ _ = _
          rw [hc1, h2]
        rw [this]
        exact q9.step (fun a o _ e => e) fun a _ p => ⟨nZ a p.2.2.2.1, p.2.1, p.2.2.2.2⟩
    · rintro Z s₃ v M₃ F₃ ⟨L, As, x1, x2, x3, x4, x5, x6, x7⟩
      have hrl : (rowsUpTo one two one.cps.size).length = 3 := by
        cases hsz : one.cps.size with
        | zero => unfold rowsUpTo row0; rw [List.length_map, List.length_range, h2]
        | succ n => unfold rowsUpTo; rw [rowTo_len, h2]
      have hAl : As.length = 3 := x4.1.trans hrl
      obtain ⟨d1, d2, d3⟩ := x4.2 2 As[2] ((rowsUpTo one two one.cps.size)[2]) (List.getElem?_eq_getElem _) (List.getElem?_eq_getElem _)
      refine wpAny_execs_cons (wpAny_Return_some (SubX (nmF F₃ x1 (wpAny_UnaryOp (wpAny_Constant_int (neg_int ?_))) (by kernel_rfl))))
      refine onListNeg (s := { s₃ with toks := _ }) (x := .ref As[2]) x3.isList (by simp [hAl]) (by simp [hAl]) ?_
      refine h _ As[2] (M2.trans' ⟨M₃.gens, M₃.os⟩) F₃.keep d3.2.2 d2 ?_
      rw [h2, List.getD_eq_getElem?_getD, List.getElem?_eq_getElem (by rw [hrl]; decide)]
      exact d1
end Zd

namespace Zd
open PySem PySem.W PyProof.Rows PySem.Calls

section
variable {w : World} {A : Around} {E : Value → Shared → Prop} {s : Shared} {env : Env}
/-- xs != ys, lists -/
theorem ne_lists {a b : Addr} {xs ys : Array Value} {Q : Value → Shared → Prop} (e : Nat → Bool) (ha : s.heap.PlainList a xs) (hb : s.heap.PlainList b ys) (hu : A.units < cLine)
    (he : xs.size = ys.size → ∀ j (h1 : j < xs.size) (h2 : j < ys.size), SeqAt.EqAt A.in1 s xs[j] ys[j] (e j)) (h : Q (.bool (!(xs.size == ys.size && (List.range xs.size).all e))) s) :
    wpAny (model P0 w) A (compareOp .NotEq (.ref a) (.ref b)) Q E s := by
  obtain ⟨n, hna⟩ := ha
  obtain ⟨m, hmb⟩ := hb
  refine wpAny_richCompare_same_room (op := .NotEq) (T := "list") ⟨_, hna, rfl⟩ ⟨_, hmb, rfl⟩ PySem.F.slot_list_ne ?_ hu
  by_cases hs : xs.size = ys.size
  · refine call_meets PySem.F.slot_list_ne ⟨_, hna, rfl⟩ PySem.F.entry_list_ne (PySem.F.args_list_ne_2 _ _) (SeqAt.list_neAt a b xs ys n m none none #[] #[] hs e) ⟨hna, hmb, ?_, ?_⟩
    · exact he hs
    · rw [hs] at h ⊢
      simpa [wants] using h
  · refine call_meets PySem.F.slot_list_ne ⟨_, hna, rfl⟩ PySem.F.entry_list_ne (PySem.F.args_list_ne_2 _ _) (SeqAt.list_ne_lengthsAt a b xs ys n m none none #[] #[] (by simpa using hs)) ⟨hna, hmb, ?_⟩
    rw [show (xs.size == ys.size) = false by simpa using hs] at h
    simpa [wants] using h
/-- l.pop() -/
theorem popE {o : Expr} {apos pos : Pos} {l : Addr} {xs : List Value} {y : Value} {Q : Value → Shared → Prop} (hl : s.heap.PlainList l (xs ++ [y]).toArray) (hz : xs.length ≤ 1000)
    (ho : ∀ Q' : Value → Shared → Prop, Q' (.ref l) s → wpAny (model P0 w) A (eval o env) Q' E s)
    (h : ∀ s', Sm s s' → s'.heap.PlainList l xs.toArray → Heap.SameBut l s.heap s'.heap → Q y s')
    (hbase : attributeBase o (Str.ofString "pop") env (eval o env) = eval o env := by rfl) (hline : (apos.endLine == pos.line) = true := by rfl) :
    wpAny (model P0 w) A (eval (.Call (.Attribute o (Str.ofString "pop") apos) [] [] pos) env) Q E s := by
  obtain ⟨n, hn⟩ := id hl
  refine wpAny_Call_method (T := "list") (id := "list.pop") hbase rfl hline F.plainAttrs_list F.slot_list_pop F.type_list_pop (ho _ ⟨hl.isList.typeIs, fun a e => (by cases e; exact ⟨_, hn, rfl⟩), ?_⟩)
  have hsz : (xs ++ [y]).toArray.size = xs.length + 1 := by simp
  refine P.pop_list (hsz := by rw [hsz, sizeLine_eq]; omega) hn (by rw [hsz]; simp) (h _ ⟨rfl, rfl⟩ ?_ (Heap.SameBut.update ..))
  have := Heap.get?_update_self (Obj.mapSeq fun xs' => xs'.eraseIdxIfInBounds ((xs ++ [y]).toArray.size - 1)) hn rfl
  have e : (xs ++ [y]).toArray.eraseIdxIfInBounds ((xs ++ [y]).toArray.size - 1) = xs.toArray := by
    rw [hsz]
    simp [Array.eraseIdxIfInBounds, List.eraseIdx_append_of_length_le]
  exact ⟨if ((xs ++ [y]).toArray.eraseIdxIfInBounds ((xs ++ [y]).toArray.size - 1)).size == (xs ++ [y]).toArray.size then n else n + 1, this.trans (by
    show some (_ : Obj) = some _
    congr 1
    show (⟨_, _, .seq ((xs ++ [y]).toArray.eraseIdxIfInBounds ((xs ++ [y]).toArray.size - 1)) _, _⟩ : Obj) = _
    simp only [e])⟩
end
end Zd

namespace Zd
open PySem PySem.W PyProof.Rows PySem.Calls

abbrev W3 := Str × Str × Str
def e0 : Str := Str.ofString ""
def hd0 (f : Str) : Str := ⟨#[f.cps.getD 0 0]⟩
def tl0 (f : Str) : Str := Txt.slice f (some 1) none
def wpush (y : W3) : List W3 :=
  (if y.2.1 == e0 then [] else [(y.1 ++ hd0 y.2.1, tl0 y.2.1, y.2.2)]) ++ (if y.2.2 == e0 then [] else [(y.1 ++ hd0 y.2.2, y.2.1, tl0 y.2.2)]) ++
  (if !(y.2.1 == e0) && !(y.2.2 == e0) && hd0 y.2.1 == hd0 y.2.2 then [(y.1 ++ hd0 y.2.1, tl0 y.2.1, tl0 y.2.2)] else [])
def wout (y : W3) : List Str := if y.2.1 == e0 && y.2.2 == e0 then [y.1] else []
def wstep (st : List W3 × List Str) : List W3 × List Str := match st.1.getLast? with
  | none => st
  | some y => (st.1.dropLast ++ wpush y, st.2 ++ wout y)
def wst (one two : Str) : Nat → List W3 × List Str
  | 0 => ([(e0, one, two)], [])
  | n + 1 => wstep (wst one two n)
def wgood (st : List W3 × List Str) : Bool := decide (st.1.length ≤ 500) && decide (st.2.length ≤ 500) && st.1.all fun y => decide (y.1.length ≤ 500 ∧ y.2.1.length ≤ 500 ∧ y.2.2.length ≤ 500)
def fd271 : FuncData := ⟨(Str.ofString "_law_ways"), (Str.ofString "_law_ways"), fParams (st 23), .stmts (fBody (st 23)), fScope (st 23), 3, [], .none, .none, .none, .str (Str.ofString "law_zd0012_01") 839, none, .ref 270, .none, 0⟩
theorem cd271 {w : World} {h : Heap} (B : Base w h) : ∃ o, h.get? 271 = some o ∧ o.data = .func fd271 ∧ h.CodeRec (.ref 270) (Str.ofString "_law_ways") :=
  ⟨_, B.k 271 _ rfl, rfl, 270, _, _, _, rfl, B.k 270 _ rfl, rfl, rfl⟩

/-- a list of triples of words -/
def TripL (h : Heap) (P : Addr → Prop) (L : Addr) (ys : List W3) : Prop :=
  ∃ Ts : List Addr, h.PlainList L (Ts.map Value.ref).toArray ∧ Ts.length = ys.length ∧ ∀ (i : Nat) (T : Addr) (y : W3), Ts[i]? = some T → ys[i]? = some y → P T ∧ ∃ ta tb tc, h.IsTuple T #[.str y.1 ta, .str y.2.1 tb, .str y.2.2 tc]

theorem TripL.snoc {h h' : Heap} {P : Addr → Prop} {L T : Addr} {ys : List W3} {y : W3} {ta tb tc : Tok} (D : ∃ Ts : List Addr, h'.PlainList L ((Ts.map Value.ref).toArray.push (.ref T)) ∧ Ts.length = ys.length ∧ ∀ (i : Nat) (T : Addr) (y : W3), Ts[i]? = some T → ys[i]? = some y → P T ∧ ∃ ta tb tc, h.IsTuple T #[.str y.1 ta, .str y.2.1 tb, .str y.2.2 tc])
    (k : ∀ a o, P a → h.get? a = some o → h'.get? a = some o) (hT : h.IsTuple T #[.str y.1 ta, .str y.2.1 tb, .str y.2.2 tc]) (hP : P T) : TripL h' P L (ys ++ [y]) := by
  obtain ⟨Ts, d1, d2, d3⟩ := D
  refine ⟨Ts ++ [T], by simpa using d1, by simp [d2], fun i T' y' e1 e2 => ?_⟩
  by_cases hi : i < Ts.length
  · rw [List.getElem?_append_left hi] at e1
    rw [List.getElem?_append_left (d2 ▸ hi)] at e2
    obtain ⟨p, a, b, c, x⟩ := d3 i T' y' e1 e2
    exact ⟨p, a, b, c, x.at fun o e => k _ o p e⟩
  · have hi' : i = Ts.length := by
      have := (List.getElem?_eq_some_iff.mp e1).1
      rw [List.length_append, List.length_singleton] at this
      omega
    subst hi'
    simp at e1
    rw [d2] at e2
    simp at e2
    subst e1 e2
    exact ⟨hP, ta, tb, tc, hT.at fun o e => k _ o hP e⟩
theorem TripL.step {h h' : Heap} {P : Addr → Prop} {L : Addr} {ys : List W3} (D : TripL h P L ys) (kL : ∀ o, h.get? L = some o → h'.get? L = some o) (k : ∀ a o, P a → h.get? a = some o → h'.get? a = some o) : TripL h' P L ys :=
  let ⟨Ts, d1, d2, d3⟩ := D; ⟨Ts, d1.at kL, d2, fun i T y e1 e2 => let ⟨p, a, b, c, x⟩ := d3 i T y e1 e2; ⟨p, a, b, c, x.at fun o e => k _ o p e⟩⟩

/-- begun.append((e1, e2, e3)) -/
theorem push_trip {w : World} {A : Around} {E : Value → Shared → Prop} {s : Shared} {env : Env} {h₀ : Heap} {v : Str → Option Value} {P : Addr → Prop} {Bg : Addr} {ys : List W3} {y : W3} {e1 e2 e3 : Expr} {k : Nat} {p1 p2 p3 p4 p5 : Pos} {Q : Flow → Shared → Prop}
    (F : FF env h₀ v s.heap) (hv : v (Str.ofString "begun") = some (.ref Bg)) (held : Held env (Str.ofString "begun") = true) (D : TripL s.heap P Bg ys) (hz : ys.length ≤ 1000) (hP : ∀ r, Above s.heap r → P r) (hPB : ∀ r, P r → r ≠ Bg)
    (he : wpAny (model P0 w) A (spliced (backTo p3 (starEach [e1, e2, e3] env))) (fun vs s₁ => ∃ ta tb tc, vs = [.str y.1 ta, .str y.2.1 tb, .str y.2.2 tc] ∧ Sm s s₁ ∧ Ext s.heap s₁.heap) E s)
    (h : ∀ s', Sm s s' → (∀ b o, b ≠ Bg → s.heap.get? b = some o → s'.heap.get? b = some o) → TripL s'.heap P Bg (ys ++ [y]) → Q .next s')
    (hline : (p2.endLine == p4.line) = true := by rfl) (hi : interactive env = false := by rfl) :
    wpAny (model P0 w) A (exec (.Expr (.Call (.Attribute (.Name (Str.ofString "begun") p1) (Str.ofString "append") p2) [.Tuple [e1, e2, e3] k p3] [] p4) p5) env) Q E s := by
  obtain ⟨Ts, d1, d2, d3⟩ := id D
  refine wpAny_Expr_any (mB1 (T := "list") (id := "list.append") PySem.F.plainAttrs_list slot_list_append PySem.F.type_list_append (nmF F hv ⟨d1.isList.typeIs, fun a e => (by cases e; obtain ⟨n, ho⟩ := d1; exact ⟨_, ho, rfl⟩), wpAny_Tuple_spliced (wpAny_mono he (fun vs s₁ h₁ => ?_) fun _ _ e => e)⟩ held) rfl rfl hline) hi
  obtain ⟨ta, tb, tc, rfl, M₁, k₁⟩ := h₁
  refine ⟨by simp [sizeLine_eq], ?_⟩
  have hT : (s₁.heap.push { cls := .type "tuple", data := .seq ([Value.str y.1 ta, .str y.2.1 tb, .str y.2.2 tc]).toArray }).IsTuple s₁.heap.objs.size #[.str y.1 ta, .str y.2.1 tb, .str y.2.2 tc] := ⟨_, Heap.get?_push_size _ rfl, rfl, _, rfl⟩
  have k₂ := Ext.push' s₁.heap { cls := .type "tuple", data := .seq ([Value.str y.1 ta, .str y.2.1 tb, .str y.2.2 tc]).toArray }
  have hab : Above s.heap s₁.heap.objs.size := (Above.size _).ext k₁
  generalize s₁.heap.objs.size = T at hT hab ⊢
  generalize s₁.heap.push { cls := .type "tuple", data := .seq ([Value.str y.1 ta, .str y.2.1 tb, .str y.2.2 tc]).toArray } = H2 at hT k₂ ⊢
  refine wpAny_list_append_plain (s := { s₁ with heap := H2 }) ((d1.at fun o e => k₁ _ _ e).at fun o e => k₂ _ _ e) (fun h₃ hp3 hs3 => ?_) (by rw [List.size_toArray, List.length_map, d2, sizeLine_eq]; omega)
  refine h _ ⟨M₁.gens, M₁.os⟩ (fun b o hb e => hs3.extBut b o hb (k₂ _ _ (k₁ _ _ e))) ?_
  refine TripL.snoc (h := H2) (T := T) ⟨Ts, hp3, d2, fun i T y e1 e2 => let ⟨p, a, b, c, x⟩ := d3 i T y e1 e2; ⟨p, a, b, c, (x.at fun o e => k₁ _ _ e).at fun o e => k₂ _ _ e⟩⟩ (fun a o p e => hs3.extBut a o (hPB a p) e) hT (hP T hab)

theorem wst_stuck {one two : Str} {i : Nat} (h : (wst one two i).1 = []) : ∀ j, i ≤ j → wst one two j = wst one two i := by
  intro j hj
  induction j with
  | zero => have : i = 0 := by omega
            subst this; rfl
  | succ j ih =>
    by_cases e : i = j + 1
    · subst e; rfl
    · have ih := ih (by omega)
      show wstep (wst one two j) = _
      rw [ih]
      unfold wstep
      rw [h]; rfl

theorem size_of_ne {f : Str} (h : (f == e0) = false) : f.cps[0]? = some (f.cps.getD 0 0) := by
  have : f.cps.size ≠ 0 := fun e => by
    have : f = e0 := by
      obtain ⟨a⟩ := f
      have : a = #[] := Array.eq_empty_of_size_eq_zero e
      subst this; decide
    rw [this] at h
    exact absurd h (by decide)
  rw [Array.getD_eq_getD_getElem?, Array.getElem?_eq_getElem (by omega)]; rfl

theorem ways_spec {w : World} {A : Around} {E : Value → Shared → Prop} {s : Shared} {Q : Value → Shared → Prop} {one two : Str} {t1 t2 : Tok} (B : Base w s.heap) (hA : A.depth < 800) (hh : A.handled = none) (hu : A.units < 5000)
    (hend : (wst one two 100).1 = []) (hok : ∀ i, i ≤ 100 → wgood (wst one two i) = true)
    (h : ∀ s' r, Sm s s' → Ext s.heap s'.heap → s.heap.get? r = none → WordsL s'.heap r (wst one two 100).2 → Q (.ref r) s') :
    wpAny (model P0 w) A (call (.ref 271) [.str one t1, .str two t2] []) Q E s := by
  obtain ⟨o, ho, hdat, hcd⟩ := cd271 B
  refine enterF (fd := fd271) (binds := [(Str.ofString "one", .str one t1), (Str.ofString "two", .str two t2)]) B (by unfold recursionLimit; omega) ho hdat hcd rfl (BindsTo.of_eq rfl) rfl (fun n => rfl) (by decide +kernel) fun s₁ M₁ F₁ => ?_
  refine wpAny_execs_cons (wpAny_Assign_Name (wpAny_List_spliced (spliced_nil ⟨Nat.zero_le _, ?_⟩)))
  have hW : (s₁.heap.push { cls := .type "list", data := .seq ([] : List Value).toArray }).PlainList s₁.heap.objs.size #[] := ⟨_, Heap.get?_push_size _ rfl⟩
  have hWP : ¬ Priv (callEnvC fd271 s.heap.objs.size 271) s₁.heap.objs.size := F₁.size_notPriv (Nat.le_refl _)
  have hWA : Above s₁.heap s₁.heap.objs.size := Above.size _
  have FW := F₁.ext (Ext.push' s₁.heap { cls := .type "list", data := .seq ([] : List Value).toArray })
  generalize s₁.heap.objs.size = Wd at hW hWP hWA ⊢
  refine stF (s := { s₁ with heap := _ }) FW (by kernel_rfl) fun s₂ M₂ F₂ S₂ => ?_
  have hW2 : s₂.heap.PlainList Wd #[] := hW.at fun o e => S₂ _ _ hWP e
  refine wpAny_execs_cons (wpAny_Assign_Name (wpAny_List_spliced (spliced_cons ?_)))
  refine wpAny_Tuple_spliced (x1 := 0) (spliced_cons ?_)
  refine Constant_str (k := 0) (pos := ⟨165, 14, 165, 16⟩) (spliced_cons ?_)
  refine nmF (s := { s₂ with toks := _ }) F₂ (x := .str one t1) (by rfl) (spliced_cons ?_) (by kernel_rfl)
  refine nmF (s := { s₂ with toks := _ }) F₂ (x := .str two t2) (by rfl) (spliced_nil ⟨by simp [sizeLine_eq], spliced_nil ⟨by simp [sizeLine_eq], ?_⟩⟩) (by kernel_rfl)
  have kT := Ext.push' s₂.heap { cls := .type "tuple", data := .seq ([Value.str (Str.ofString "") s₂.toks, .str one t1, .str two t2]).toArray }
  have hT : (s₂.heap.push { cls := .type "tuple", data := .seq ([Value.str (Str.ofString "") s₂.toks, .str one t1, .str two t2]).toArray }).IsTuple s₂.heap.objs.size #[.str e0 s₂.toks, .str one t1, .str two t2] := ⟨_, Heap.get?_push_size _ rfl, rfl, _, rfl⟩
  have hTA : Above s₂.heap s₂.heap.objs.size := Above.size _
  have hTP : ¬ Priv (callEnvC fd271 s.heap.objs.size 271) s₂.heap.objs.size := F₂.size_notPriv (Nat.le_refl _)
  have F₃ := F₂.ext kT
  generalize s₂.heap.objs.size = T at hT hTA hTP ⊢
  generalize s₂.heap.push { cls := .type "tuple", data := .seq ([Value.str (Str.ofString "") s₂.toks, .str one t1, .str two t2]).toArray } = H3 at kT hT F₃ ⊢
  have kB := Ext.push' H3 { cls := .type "list", data := .seq ([Value.ref T]).toArray }
  have hB : (H3.push { cls := .type "list", data := .seq ([Value.ref T]).toArray }).PlainList H3.objs.size #[.ref T] := ⟨_, Heap.get?_push_size _ rfl⟩
  have hBA : Above H3 H3.objs.size := Above.size _
  have hBP : ¬ Priv (callEnvC fd271 s.heap.objs.size 271) H3.objs.size := F₃.size_notPriv (Nat.le_refl _)
  have F₄ := F₃.ext kB
  generalize H3.objs.size = Bg at hB hBA hBP ⊢
  generalize H3.push { cls := .type "list", data := .seq ([Value.ref T]).toArray } = H4 at kB hB F₄ ⊢
  refine stF (s := { s₂ with heap := H4, toks := _ }) F₄ (by kernel_rfl) fun s₅ M₅ F₅ S₅ => ?_
  have B₅ : Base w s₅.heap := B.ext F₅.keep
  have hWn : s₁.heap.get? Wd = none := hWA.none
  have hWs : s.heap.get? Wd = none := none_of_ext F₁.keep hWn
  have hW2e : ∃ o, s₂.heap.get? Wd = some o := by obtain ⟨n, ho⟩ := hW2; exact ⟨_, ho⟩
  have hTW : T ≠ Wd := fun e => by obtain ⟨o, ho⟩ := hW2e; exact Nat.lt_irrefl _ (e ▸ hTA Wd o ho)
  have hBW : Bg ≠ Wd := fun e => by obtain ⟨o, ho⟩ := hW2e; exact Nat.lt_irrefl _ (e ▸ hBA Wd o (kT _ _ ho))
  have hTB : T ≠ Bg := fun e => by obtain ⟨o, ho, _⟩ := id hT; exact Nat.lt_irrefl _ (e ▸ hBA T o ho)
  have hBs : s.heap.get? Bg = none := none_of_ext F₃.keep hBA.none
  have hB5 : s₅.heap.PlainList Bg #[.ref T] := hB.at fun o e => S₅ _ _ hBP e
  have hW5 : s₅.heap.PlainList Wd #[] := hW2.at fun o e => S₅ _ _ hWP (kB _ _ (kT _ _ e))
  have hT5 := hT.at (h' := s₅.heap) fun o e => S₅ _ _ hTP (kB _ _ e)
  have M5 : Sm s s₅ := ⟨M₅.gens.trans (M₂.gens.trans M₁.gens), M₅.os.trans (M₂.os.trans M₁.os)⟩
  refine wpAny_execs_cons (wpAny_While ?_)
  refine codeAny_whileLoop (fun n s' => ∃ i v, i ≤ 100 ∧ n = 100 - i ∧ Sm s s' ∧ FF (callEnvC fd271 s.heap.objs.size 271) s.heap v s'.heap ∧ v (Str.ofString "ways") = some (.ref Wd) ∧ v (Str.ofString "begun") = some (.ref Bg) ∧
    WordsL s'.heap Wd (wst one two i).2 ∧ TripL s'.heap (fun T => ¬ Priv (callEnvC fd271 s.heap.objs.size 271) T ∧ T ≠ Wd ∧ T ≠ Bg) Bg (wst one two i).1) ?_ 100 ⟨0, _, Nat.zero_le _, rfl, M5, F₅, ?_, ?_, ⟨[], hW5, .nil⟩, ⟨[T], hB5, rfl, ?_⟩⟩
  · rintro n s' ⟨i, v, hi, rfl, M, F', x1, x2, x3, x4⟩
    obtain ⟨Ts, d1, d2, d3⟩ := id x4
    obtain ⟨vs, y1, y2⟩ := id x3
    refine wpAny_isTrue_Compare1 (nmF F' x2 (wpAny_List_spliced (spliced_nil ⟨Nat.zero_le _, ?_⟩)) (by kernel_rfl))
    have kE := Ext.push' s'.heap { cls := .type "list", data := .seq ([] : List Value).toArray }
    have hE : (s'.heap.push { cls := .type "list", data := .seq ([] : List Value).toArray }).PlainList s'.heap.objs.size #[] := ⟨_, Heap.get?_push_size _ rfl⟩
    refine ne_lists (s := { s' with heap := s'.heap.push { cls := .type "list", data := .seq ([] : List Value).toArray } }) (fun _ => true) (d1.at fun o e => kE _ _ e) hE (by show A.units + 3 < cLine; unfold cLine; omega) (fun _ j _ h2 => absurd h2 (by simp)) (wpAny_truthy_bool ?_)
    have FE := F'.ext kE
    rcases List.eq_nil_or_concat (wst one two i).1 with hnil | ⟨init, y, hy⟩
    · have hTs : Ts = [] := List.eq_nil_of_length_eq_zero (by rw [d2, hnil]; rfl)
      subst hTs
      have hb : (!((([] : List Addr).map Value.ref).toArray.size == (#[] : Array Value).size && (List.range (([] : List Addr).map Value.ref).toArray.size).all fun _ => true)) = false := by rfl
      rw [hb]
      simp only [Bool.false_eq_true, if_false]
      refine wpAny_execs_nil (wpAny_execs_cons (wpAny_Return_some (nmF (s := { s' with heap := _ }) FE x1 (h _ _ ⟨M.gens, M.os⟩ FE.keep hWs ?_) (by kernel_rfl))))
      rw [wst_stuck hnil 100 hi]
      exact x3.ext kE
    · have hTs : Ts.length = init.length + 1 := by rw [d2, hy]; simp
      have hb : (!((Ts.map Value.ref).toArray.size == (#[] : Array Value).size && (List.range (Ts.map Value.ref).toArray.size).all fun _ => true)) = true := by simp [hTs]
      rw [hb]
      simp only [if_true]
      obtain ⟨Tsi, T', hTsi⟩ : ∃ Tsi T', Ts = Tsi ++ [T'] := by
        rcases List.eq_nil_or_concat Ts with e | ⟨a, b, e⟩
        · rw [e] at hTs; simp at hTs
        · exact ⟨a, b, by simpa using e⟩
      have hy' : (wst one two i).1 = init ++ [y] := by simpa using hy
      subst hTsi
      have hil : Tsi.length = init.length := by simpa using hTs
      obtain ⟨hPT, ta, tb, tc, hTt⟩ := d3 Tsi.length T' y (by simp) (by rw [hy', hil]; simp)
      have hg := hok i hi
      refine wpAny_execs_cons (Assign_Tuple (popE (s := { s' with heap := _ }) (l := Bg) (xs := Tsi.map Value.ref) (y := .ref T') ((d1.at fun o e => kE _ _ e) |> fun q => by simpa using q) ?_ (fun Q' q => nmF (s := { s' with heap := _ }) FE x2 q (by kernel_rfl)) fun s₆ M₆ hp6 hs6 => ?_))
      · unfold wgood at hg
        simp only [Bool.and_eq_true, decide_eq_true_eq] at hg
        have := hg.1.1
        rw [hy'] at this
        rw [List.length_map, hil]
        simp at this; omega
      have F₆ := FE.mut hBP hBs fun b o hb e => hs6.extBut b o hb e
      refine wpAny_assign_Tuple (A := A.deeper _) hh ((hTt.at fun o e => kE _ _ e).at fun o e => hs6.extBut _ o hPT.2.2 e) rfl rfl fun h7 hx7 => ?_
      replace hx7 : Heap.ExtBut s₆.heap.objs.size s₆.heap h7 := hx7
      have k7 : Ext s₆.heap h7 := fun b o e => hx7 b o (Nat.ne_of_lt (Heap.lt_size e)) e
      refine wpAny_bind (wpAny_holding (wpAny_assign_Name (stF (s := { s₆ with heap := h7 }) (F₆.ext k7) (by kernel_rfl) fun s₈ M₈ F₈ S₈ => ?_)))
      refine wpAny_bind (wpAny_holding (wpAny_assign_Name (stF F₈ (by kernel_rfl) fun s₉ M₉ F₉ S₉ => ?_)))
      refine wpAny_bind (wpAny_holding (wpAny_assign_Name (stF F₉ (by kernel_rfl) fun sA MA FA SA => wpAny_pure ?_)))
      have up : ∀ b o, ¬ Priv (callEnvC fd271 s.heap.objs.size 271) b → b ≠ Bg → s'.heap.get? b = some o → sA.heap.get? b = some o := fun b o hp hb e => SA _ _ hp (S₉ _ _ hp (S₈ _ _ hp (k7 _ _ (hs6.extBut b o hb (kE _ _ e)))))
      have MsA : Sm s sA := ⟨MA.gens.trans (M₉.gens.trans (M₈.gens.trans (M₆.gens.trans M.gens))), MA.os.trans (M₉.os.trans (M₈.os.trans (M₆.os.trans M.os)))⟩
      have WA : WordsL sA.heap Wd (wst one two i).2 := ⟨vs, y1.at fun o e => up _ _ hWP (Ne.symm hBW) e, y2⟩
      have TA : TripL sA.heap (fun T => ¬ Priv (callEnvC fd271 s.heap.objs.size 271) T ∧ T ≠ Wd ∧ T ≠ Bg) Bg init := by
        refine ⟨Tsi, hp6.at fun o e => SA _ _ hBP (S₉ _ _ hBP (S₈ _ _ hBP (k7 _ _ e))), hil, fun j T y e1 e2 => ?_⟩
        obtain ⟨p, a, b, c, x⟩ := d3 j T y (by rw [List.getElem?_append_left (List.getElem?_eq_some_iff.mp e1).1]; exact e1) (by rw [hy', List.getElem?_append_left (List.getElem?_eq_some_iff.mp e2).1]; exact e2)
        exact ⟨p, a, b, c, x.at fun o e => up _ _ p.1 p.2.2 e⟩
      have g1 : (fun z => if z = Str.ofString "second" then some (Value.str y.2.2 tc) else if z = Str.ofString "first" then some (.str y.2.1 tb) else if z = Str.ofString "word" then some (.str y.1 ta) else v z) (Str.ofString "word") = some (.str y.1 ta) := by
        show (if _ then _ else if _ then _ else if _ then _ else _) = _
        rw [if_neg (by decide), if_neg (by decide), if_pos rfl]
      have g2 : (fun z => if z = Str.ofString "second" then some (Value.str y.2.2 tc) else if z = Str.ofString "first" then some (.str y.2.1 tb) else if z = Str.ofString "word" then some (.str y.1 ta) else v z) (Str.ofString "first") = some (.str y.2.1 tb) := by
        show (if _ then _ else if _ then _ else if _ then _ else _) = _
        rw [if_neg (by decide), if_pos rfl]
      have g3 : (fun z => if z = Str.ofString "second" then some (Value.str y.2.2 tc) else if z = Str.ofString "first" then some (.str y.2.1 tb) else if z = Str.ofString "word" then some (.str y.1 ta) else v z) (Str.ofString "second") = some (.str y.2.2 tc) := if_pos rfl
      have g4 : (fun z => if z = Str.ofString "second" then some (Value.str y.2.2 tc) else if z = Str.ofString "first" then some (.str y.2.1 tb) else if z = Str.ofString "word" then some (.str y.1 ta) else v z) (Str.ofString "ways") = some (.ref Wd) := by
        show (if _ then _ else if _ then _ else if _ then _ else _) = _
        rw [if_neg (by decide), if_neg (by decide), if_neg (by decide)]; exact x1
      have g5 : (fun z => if z = Str.ofString "second" then some (Value.str y.2.2 tc) else if z = Str.ofString "first" then some (.str y.2.1 tb) else if z = Str.ofString "word" then some (.str y.1 ta) else v z) (Str.ofString "begun") = some (.ref Bg) := by
        show (if _ then _ else if _ then _ else if _ then _ else _) = _
        rw [if_neg (by decide), if_neg (by decide), if_neg (by decide)]; exact x2
      generalize (fun z => if z = Str.ofString "second" then some (Value.str y.2.2 tc) else if z = Str.ofString "first" then some (.str y.2.1 tb) else if z = Str.ofString "word" then some (.str y.1 ta) else v z) = vA at FA g1 g2 g3 g4 g5
      refine wpAny_execs_cons (wpAny_mono (Q := fun f sB => f = .next ∧ Sm s sB ∧ FF (callEnvC fd271 s.heap.objs.size 271) s.heap vA sB.heap ∧ WordsL sB.heap Wd ((wst one two i).2 ++ wout y) ∧ TripL sB.heap (fun T => ¬ Priv (callEnvC fd271 s.heap.objs.size 271) T ∧ T ≠ Wd ∧ T ≠ Bg) Bg init) ?_ (fun f sB q => ?_) fun _ _ e => e)
      · refine wpAny_If (isTrue_and (wpAny_isTrue_Compare1 (nmF FA g2 (Constant_str (eq_str (wpAny_truthy_bool ?_))) (by kernel_rfl))))
        have same : ∀ {tk : Nat}, wout y = [] → Sm s { sA with toks := tk } ∧ FF (callEnvC fd271 s.heap.objs.size 271) s.heap vA sA.heap ∧ WordsL sA.heap Wd ((wst one two i).2 ++ wout y) ∧ TripL sA.heap (fun T => ¬ Priv (callEnvC fd271 s.heap.objs.size 271) T ∧ T ≠ Wd ∧ T ≠ Bg) Bg init := fun e => ⟨⟨MsA.gens, MsA.os⟩, FA, by rw [e, List.append_nil]; exact WA, TA⟩
        cases c1 : y.2.1 == Str.ofString "" with
        | false =>
          simp only [Bool.false_eq_true, if_false]
          exact wpAny_execs_nil ⟨rfl, same (by unfold wout e0; rw [c1]; rfl)⟩
        | true =>
          simp only [if_true]
          refine isTrue_and (wpAny_isTrue_Compare1 (nmF (s := { sA with toks := _ }) FA g3 (Constant_str (eq_str (wpAny_truthy_bool ?_))) (by kernel_rfl)))
          cases c2 : y.2.2 == Str.ofString "" with
          | false =>
            simp only [Bool.false_eq_true, if_false]
            exact wpAny_execs_nil ⟨rfl, same (by unfold wout e0; rw [c1, c2]; rfl)⟩
          | true =>
            simp only [if_true]
            refine isTrue_and_nil ?_
            simp only [if_true]
            obtain ⟨vs', z1, z2⟩ := WA
            refine wpAny_execs_cons (wpAny_Expr_any (mB1 (T := "list") (id := "list.append") F.plainAttrs_list slot_list_append F.type_list_append (nmF (s := { sA with toks := _ }) FA g4 ⟨z1.isList.typeIs, fun a e => (by cases e; obtain ⟨n, ho⟩ := z1; exact ⟨_, ho, rfl⟩), nmF (s := { sA with toks := _ }) FA g1 ?_ (by kernel_rfl)⟩ (by kernel_rfl))))
            refine wpAny_list_append_plain (s := { sA with toks := _ }) z1 (fun h8 hp8 hs8 => wpAny_execs_nil ⟨rfl, ⟨MsA.gens, MsA.os⟩, FA.mut hWP hWs fun b o hb e => hs8.extBut b o hb e, ⟨vs' ++ [.str y.1 ta], by simpa using hp8, ?_⟩, TA.step (fun o e => hs8.extBut _ o hBW e) fun a o p e => hs8.extBut _ o p.2.1 e⟩) ?_
            · rw [show wout y = [y.1] by unfold wout e0; rw [c1, c2]; rfl]
              exact wordsAre_snoc _ _ z2
            · unfold wgood at hg
              simp only [Bool.and_eq_true, decide_eq_true_eq] at hg
              have := hg.1.2
              rw [List.size_toArray, wordsAre_len z2, sizeLine_eq]; omega
      obtain ⟨rfl, MB, FB, WB, TB⟩ := q
      have hPn : ∀ {sX : Shared}, FF (callEnvC fd271 s.heap.objs.size 271) s.heap vA sX.heap → TripL sX.heap (fun T => ¬ Priv (callEnvC fd271 s.heap.objs.size 271) T ∧ T ≠ Wd ∧ T ≠ Bg) Bg (init : List W3) → WordsL sX.heap Wd ((wst one two i).2 ++ wout y) → ∀ r, Above sX.heap r → ¬ Priv (callEnvC fd271 s.heap.objs.size 271) r ∧ r ≠ Wd ∧ r ≠ Bg := fun FX TX WX r hr => by
        refine ⟨FX.nP hr.none, fun e => ?_, fun e => ?_⟩
        · obtain ⟨_, ⟨n, ho⟩, _⟩ := WX
          exact Nat.lt_irrefl _ (e ▸ hr Wd _ ho)
        · obtain ⟨_, ⟨n, ho⟩, _⟩ := TX
          exact Nat.lt_irrefl _ (e ▸ hr Bg _ ho)
      have hgy : init.length ≤ 499 ∧ y.1.length ≤ 500 ∧ y.2.1.length ≤ 500 ∧ y.2.2.length ≤ 500 := by
        unfold wgood at hg
        simp only [Bool.and_eq_true, decide_eq_true_eq] at hg
        have h1 := hg.1.1
        rw [hy', List.length_append, List.length_singleton] at h1
        have h2 := List.all_eq_true.mp hg.2 y (by rw [hy']; simp)
        have h2 := of_decide_eq_true h2
        exact ⟨by omega, h2⟩
      -- if first != ''
      refine wpAny_execs_cons (wpAny_mono (Q := fun f sC => f = .next ∧ Sm s sC ∧ FF (callEnvC fd271 s.heap.objs.size 271) s.heap vA sC.heap ∧ WordsL sC.heap Wd ((wst one two i).2 ++ wout y) ∧ TripL sC.heap (fun T => ¬ Priv (callEnvC fd271 s.heap.objs.size 271) T ∧ T ≠ Wd ∧ T ≠ Bg) Bg
          (init ++ (if y.2.1 == e0 then [] else [(y.1 ++ hd0 y.2.1, tl0 y.2.1, y.2.2)]))) ?_ (fun f sC q => ?_) fun _ _ e => e)
      · refine wpAny_If (wpAny_isTrue_Compare1 (nmF FB g2 (Constant_str (ne_str (wpAny_truthy_bool ?_))) (by kernel_rfl)))
        cases c1 : y.2.1 == e0 with
        | true =>
          rw [if_neg (by show ¬ ((!(y.2.1 == e0)) = true); rw [c1]; decide)]
          exact wpAny_execs_nil ⟨rfl, ⟨MB.gens, MB.os⟩, FB, WB, by simpa using TB⟩
        | false =>
          rw [if_pos (by show (!(y.2.1 == e0)) = true; rw [c1]; rfl)]
          refine wpAny_execs_cons (push_trip (s := { sB with toks := _ }) (y := (y.1 ++ hd0 y.2.1, tl0 y.2.1, y.2.2)) FB g5 (by kernel_rfl) TB (by omega) (hPn FB TB WB) (fun r p => p.2.2) ?_ fun sC MC kC TC => wpAny_execs_nil ?_)
          · refine spliced_cons (wpAny_BinOp (nmF (s := { sB with toks := _ }) FB g1 (SubX (nmF (s := { sB with toks := _ }) FB g2 (wpAny_Constant_int (onStr (c := y.2.1.cps.getD 0 0) (by decide) (by decide) (size_of_ne c1) fun t5 k5 => ?_)) (by kernel_rfl))) (by kernel_rfl)))
            refine add_str (s := { sB with toks := k5 }) (fun t6 k6 => spliced_cons ?_) (by rw [sizeLine_eq]; show y.1.length + 1 ≤ _; omega)
            refine sliceS (nmF (s := { sB with toks := k6 }) FB g2 (evalPart_some_step (wpAny_Constant_int (evalPart_none_step ⟨y.2.1, tb, some (1, k6), none, rfl, rfl, rfl, by omega, fun s9 t9 M9 k9 => spliced_cons ?_⟩))) (by kernel_rfl))
            exact nmF (FB.ext k9) g3 (spliced_nil ⟨_, _, _, rfl, ⟨M9.gens, M9.os⟩, k9⟩) (by kernel_rfl)
          · exact ⟨rfl, ⟨MC.gens.trans MB.gens, MC.os.trans MB.os⟩, FB.mut hBP hBs kC, (let ⟨vs', z1, z2⟩ := WB; ⟨vs', z1.at fun o e => kC _ o (Ne.symm hBW) e, z2⟩), by simpa using TC⟩
      obtain ⟨rfl, MC, FC, WC, TC⟩ := q
      -- if second != ''
      have hl1 : (init ++ (if y.2.1 == e0 then [] else [(y.1 ++ hd0 y.2.1, tl0 y.2.1, y.2.2)])).length ≤ 500 := by
        rw [List.length_append]; split <;> simp <;> omega
      have hPn2 : ∀ {sX : Shared} {l : List W3}, FF (callEnvC fd271 s.heap.objs.size 271) s.heap vA sX.heap → TripL sX.heap (fun T => ¬ Priv (callEnvC fd271 s.heap.objs.size 271) T ∧ T ≠ Wd ∧ T ≠ Bg) Bg l → WordsL sX.heap Wd ((wst one two i).2 ++ wout y) → ∀ r, Above sX.heap r → ¬ Priv (callEnvC fd271 s.heap.objs.size 271) r ∧ r ≠ Wd ∧ r ≠ Bg := fun FX TX WX r hr => by
        refine ⟨FX.nP hr.none, fun e => ?_, fun e => ?_⟩
        · obtain ⟨_, ⟨n, ho⟩, _⟩ := WX
          exact Nat.lt_irrefl _ (e ▸ hr Wd _ ho)
        · obtain ⟨_, ⟨n, ho⟩, _⟩ := TX
          exact Nat.lt_irrefl _ (e ▸ hr Bg _ ho)
      generalize hI1 : init ++ (if y.2.1 == e0 then [] else [(y.1 ++ hd0 y.2.1, tl0 y.2.1, y.2.2)]) = I1 at TC hl1
      refine wpAny_execs_cons (wpAny_mono (Q := fun f sD => f = .next ∧ Sm s sD ∧ FF (callEnvC fd271 s.heap.objs.size 271) s.heap vA sD.heap ∧ WordsL sD.heap Wd ((wst one two i).2 ++ wout y) ∧ TripL sD.heap (fun T => ¬ Priv (callEnvC fd271 s.heap.objs.size 271) T ∧ T ≠ Wd ∧ T ≠ Bg) Bg
          (I1 ++ (if y.2.2 == e0 then [] else [(y.1 ++ hd0 y.2.2, y.2.1, tl0 y.2.2)]))) ?_ (fun f sD q => ?_) fun _ _ e => e)
      · refine wpAny_If (wpAny_isTrue_Compare1 (nmF FC g3 (Constant_str (ne_str (wpAny_truthy_bool ?_))) (by kernel_rfl)))
        cases c1 : y.2.2 == e0 with
        | true =>
          rw [if_neg (by show ¬ ((!(y.2.2 == e0)) = true); rw [c1]; decide)]
          exact wpAny_execs_nil ⟨rfl, ⟨MC.gens, MC.os⟩, FC, WC, by simpa using TC⟩
        | false =>
          rw [if_pos (by show (!(y.2.2 == e0)) = true; rw [c1]; rfl)]
          refine wpAny_execs_cons (push_trip (s := { sC with toks := _ }) (y := (y.1 ++ hd0 y.2.2, y.2.1, tl0 y.2.2)) FC g5 (by kernel_rfl) TC (by omega) (hPn2 FC TC WC) (fun r p => p.2.2) ?_ fun sD MD kD TD => wpAny_execs_nil ?_)
          · refine spliced_cons (wpAny_BinOp (nmF (s := { sC with toks := _ }) FC g1 (SubX (nmF (s := { sC with toks := _ }) FC g3 (wpAny_Constant_int (onStr (c := y.2.2.cps.getD 0 0) (by decide) (by decide) (size_of_ne c1) fun t5 k5 => ?_)) (by kernel_rfl))) (by kernel_rfl)))
            refine add_str (s := { sC with toks := k5 }) (fun t6 k6 => spliced_cons ?_) (by rw [sizeLine_eq]; show y.1.length + 1 ≤ _; omega)
            refine nmF (s := { sC with toks := k6 }) FC g2 (spliced_cons ?_) (by kernel_rfl)
            exact sliceS (nmF (s := { sC with toks := k6 }) FC g3 (evalPart_some_step (wpAny_Constant_int (evalPart_none_step ⟨y.2.2, tc, some (1, k6), none, rfl, rfl, rfl, by omega, fun s9 t9 M9 k9 => spliced_nil ⟨_, _, _, rfl, ⟨M9.gens, M9.os⟩, k9⟩⟩))) (by kernel_rfl))
          · exact ⟨rfl, ⟨MD.gens.trans MC.gens, MD.os.trans MC.os⟩, FC.mut hBP hBs kD, (let ⟨vs', z1, z2⟩ := WC; ⟨vs', z1.at fun o e => kD _ o (Ne.symm hBW) e, z2⟩), by simpa using TD⟩
      obtain ⟨rfl, MD, FD, WD, TD⟩ := q
      have hl2 : (I1 ++ (if y.2.2 == e0 then [] else [(y.1 ++ hd0 y.2.2, y.2.1, tl0 y.2.2)])).length ≤ 501 := by
        rw [List.length_append]; split <;> simp <;> omega
      generalize hI2 : I1 ++ (if y.2.2 == e0 then [] else [(y.1 ++ hd0 y.2.2, y.2.1, tl0 y.2.2)]) = I2 at TD hl2
      have fin : ∀ (sE : Shared) (tk : Nat), Sm s sE → FF (callEnvC fd271 s.heap.objs.size 271) s.heap vA sE.heap → WordsL sE.heap Wd ((wst one two i).2 ++ wout y) → TripL sE.heap (fun T => ¬ Priv (callEnvC fd271 s.heap.objs.size 271) T ∧ T ≠ Wd ∧ T ≠ Bg) Bg (I2 ++ (if !(y.2.1 == e0) && !(y.2.2 == e0) && hd0 y.2.1 == hd0 y.2.2 then [(y.1 ++ hd0 y.2.1, tl0 y.2.1, tl0 y.2.2)] else [])) →
          ∃ m, m < 100 - i ∧ ∃ i v, i ≤ 100 ∧ m = 100 - i ∧ Sm s { sE with toks := tk } ∧ FF (callEnvC fd271 s.heap.objs.size 271) s.heap v sE.heap ∧ v (Str.ofString "ways") = some (.ref Wd) ∧ v (Str.ofString "begun") = some (.ref Bg) ∧
            WordsL sE.heap Wd (wst one two i).2 ∧ TripL sE.heap (fun T => ¬ Priv (callEnvC fd271 s.heap.objs.size 271) T ∧ T ≠ Wd ∧ T ≠ Bg) Bg (wst one two i).1 := by
        intro sE tk ME FE WE TE
        have hi100 : i ≠ 100 := fun e => by rw [e, hend] at hy'; simp at hy'
        have hw : wst one two (i + 1) = (I2 ++ (if !(y.2.1 == e0) && !(y.2.2 == e0) && hd0 y.2.1 == hd0 y.2.2 then [(y.1 ++ hd0 y.2.1, tl0 y.2.1, tl0 y.2.2)] else []), (wst one two i).2 ++ wout y) := by
          show wstep (wst one two i) = _
          unfold wstep
          rw [hy', List.getLast?_append]
          simp only [List.getLast?_singleton, Option.some_or]
          rw [List.dropLast_concat, ← hI2, ← hI1]
          unfold wpush
          simp only [List.append_assoc]
        exact ⟨100 - (i + 1), by omega, i + 1, vA, by omega, rfl, ⟨ME.gens, ME.os⟩, FE, g4, g5, by rw [hw]; exact WE, by rw [hw]; exact TE⟩
      refine wpAny_execs_cons (wpAny_If (isTrue_and (wpAny_isTrue_Compare1 (nmF FD g2 (Constant_str (ne_str (wpAny_truthy_bool ?_))) (by kernel_rfl)))))
      have same : ∀ (tk : Nat), (!(y.2.1 == e0) && !(y.2.2 == e0) && hd0 y.2.1 == hd0 y.2.2) = false → TripL sD.heap (fun T => ¬ Priv (callEnvC fd271 s.heap.objs.size 271) T ∧ T ≠ Wd ∧ T ≠ Bg) Bg (I2 ++ (if !(y.2.1 == e0) && !(y.2.2 == e0) && hd0 y.2.1 == hd0 y.2.2 then [(y.1 ++ hd0 y.2.1, tl0 y.2.1, tl0 y.2.2)] else [])) := fun _ e => by
        rw [e]; simpa using TD
      cases c1 : y.2.1 == e0 with
      | true =>
        rw [if_neg (by show ¬ ((!(y.2.1 == e0)) = true); rw [c1]; decide)]
        simp only [Bool.false_eq_true, if_false]
        exact wpAny_execs_nil (wpAny_execs_nil (fin sD _ MD FD WD (same 0 (by rw [c1]; rfl))))
      | false =>
        rw [if_pos (by show (!(y.2.1 == e0)) = true; rw [c1]; rfl)]
        refine isTrue_and (wpAny_isTrue_Compare1 (nmF (s := { sD with toks := _ }) FD g3 (Constant_str (ne_str (wpAny_truthy_bool ?_))) (by kernel_rfl)))
        cases c2 : y.2.2 == e0 with
        | true =>
          rw [if_neg (by show ¬ ((!(y.2.2 == e0)) = true); rw [c2]; decide)]
          simp only [Bool.false_eq_true, if_false]
          exact wpAny_execs_nil (wpAny_execs_nil (fin sD _ MD FD WD (same 0 (by rw [c1, c2]; rfl))))
        | false =>
          rw [if_pos (by show (!(y.2.2 == e0)) = true; rw [c2]; rfl)]
          refine isTrue_and (wpAny_isTrue_Compare1 (SubX (nmF (s := { sD with toks := _ }) FD g2 (wpAny_Constant_int (onStr (c := y.2.1.cps.getD 0 0) (by decide) (by decide) (size_of_ne c1) fun t5 k5 => ?_)) (by kernel_rfl))))
          refine SubX (nmF (s := { sD with toks := _ }) FD g3 (wpAny_Constant_int (onStr (c := y.2.2.cps.getD 0 0) (by decide) (by decide) (size_of_ne c2) fun t6 k6 => eq_str (wpAny_truthy_bool ?_))) (by kernel_rfl))
          cases c3 : hd0 y.2.1 == hd0 y.2.2 with
          | false =>
            rw [if_neg (by show ¬ ((hd0 y.2.1 == hd0 y.2.2) = true); rw [c3]; decide)]
            simp only [Bool.false_eq_true, if_false]
            exact wpAny_execs_nil (wpAny_execs_nil (fin sD _ MD FD WD (same 0 (by rw [c1, c2, c3]; rfl))))
          | true =>
            rw [if_pos (by show (hd0 y.2.1 == hd0 y.2.2) = true; exact c3)]
            refine isTrue_and_nil ?_
            simp only [if_true]
            refine wpAny_execs_cons (push_trip (s := { sD with toks := _ }) (y := (y.1 ++ hd0 y.2.1, tl0 y.2.1, tl0 y.2.2)) FD g5 (by kernel_rfl) TD (by omega) (hPn2 FD TD WD) (fun r p => p.2.2) ?_ fun sE ME kE TE => wpAny_execs_nil (wpAny_execs_nil ?_))
            · refine spliced_cons (wpAny_BinOp (nmF (s := { sD with toks := _ }) FD g1 (SubX (nmF (s := { sD with toks := _ }) FD g2 (wpAny_Constant_int (onStr (c := y.2.1.cps.getD 0 0) (by decide) (by decide) (size_of_ne c1) fun t5 k5 => ?_)) (by kernel_rfl))) (by kernel_rfl)))
              refine add_str (s := { sD with toks := k5 }) (fun t6 k6 => spliced_cons ?_) (by rw [sizeLine_eq]; show y.1.length + 1 ≤ _; omega)
              refine sliceS (nmF (s := { sD with toks := k6 }) FD g2 (evalPart_some_step (wpAny_Constant_int (evalPart_none_step ⟨y.2.1, tb, some (1, k6), none, rfl, rfl, rfl, by omega, fun s9 t9 M9 k9 => spliced_cons ?_⟩))) (by kernel_rfl))
              exact sliceS (nmF (FD.ext k9) g3 (evalPart_some_step (wpAny_Constant_int (evalPart_none_step ⟨y.2.2, tc, some (1, _), none, rfl, rfl, rfl, by omega, fun s10 t10 M10 k10 => spliced_nil ⟨_, _, _, rfl, ⟨M10.gens.trans M9.gens, M10.os.trans M9.os⟩, fun b o e => k10 b o (k9 b o e)⟩⟩))) (by kernel_rfl))
            · refine fin sE _ ⟨ME.gens.trans MD.gens, ME.os.trans MD.os⟩ (FD.mut hBP hBs kE) (let ⟨vs', z1, z2⟩ := WD; ⟨vs', z1.at fun o e => kE _ o (Ne.symm hBW) e, z2⟩) ?_
              rw [c1, c2, c3]
              simpa using TE
  · show (if _ then _ else _) = _
    rw [if_neg (by decide)]; rfl
  · exact if_pos rfl
  · intro i T' y e1 e2
    cases i with
    | zero =>
      simp [wst] at e1 e2
      subst e1 e2
      exact ⟨⟨hTP, hTW, hTB⟩, _, _, _, hT5⟩
    | succ i => simp at e1
end Zd

namespace Zd
open PySem PySem.W PyProof.Rows PySem.Calls

section
variable {w : World} {A : Around} {E : Value → Shared → Prop} {s : Shared}
theorem sum_ints {l : Addr} {vs : List Value} {ns : List Int} {Q : Value → Shared → Prop} (hh : A.handled = none) (hl : s.heap.IsList l vs.toArray) (hi : IntsAre vs ns)
    (h : ∀ s' t, Sm s s' → Ext s.heap s'.heap → Q (.int ns.sum t) s') : wpAny (model P0 w) A (call (.builtin "sum") [.ref l] []) Q E s := by
  have hn := hi.numsOf
  obtain ⟨xs, hx⟩ := hi.allInts.items
  rw [hx] at hl
  have e : numsOf vs = numsOf (intItems xs).toList := by rw [← hx]
  rw [hn, nums_intItems] at e
  subst e
  refine sum_intListG hh hl fun h' tk t' hk => ?_
  rw [preSum_eq, List.take_of_length_le (by simp)]
  exact h { s with heap := h', toks := tk } t' ⟨rfl, rfl⟩ hk
end

theorem onDict {w : World} {A : Around} {E : Value → Shared → Prop} {s : Shared} {d : Addr} {kvs : List (Str × Value)} {k : Str} {t : Tok} {x : Value} {Q : Value → Shared → Prop} (hm : s.heap.DictOf (strKind P0 w) d kvs) (hv : valueAt kvs k = some x)
    (h : Q x { s with toks := s.toks + 1 }) : SubscriptOn (model P0 w) A (.ref d) (.str k t) Q E s :=
  ⟨"dict", _, slot_dict_getitem.lookup, hm.typeIs, wpAny_getItem_of (strKind_is P0 w k t) hm.mapOf hv h⟩

/-- a list of pairs of ints, P holds the pairs -/
def PairT (h : Heap) (P : Addr → Prop) (L : Addr) (ps : List (Int × Int)) : Prop :=
  ∃ Ts : List Addr, h.PlainList L (Ts.map Value.ref).toArray ∧ Ts.length = ps.length ∧ ∀ (i : Nat) (T : Addr) (p : Int × Int), Ts[i]? = some T → ps[i]? = some p → P T ∧ ∃ ta tb, h.IsTuple T #[.int p.1 ta, .int p.2 tb]
theorem PairT.pairs {h : Heap} {P : Addr → Prop} {L : Addr} {ps : List (Int × Int)} (D : PairT h P L ps) : PairsL h L ps :=
  let ⟨Ts, a, b, c⟩ := D; ⟨Ts, a, b, fun i T p e1 e2 => (c i T p e1 e2).2⟩
theorem PairT.step {h h' : Heap} {P P' : Addr → Prop} {L : Addr} {ys : List (Int × Int)} (D : PairT h P L ys) (kL : ∀ o, h.get? L = some o → h'.get? L = some o) (k : ∀ a o, P a → h.get? a = some o → h'.get? a = some o)
    (hp : ∀ a, (∃ o, h.get? a = some o) → P a → P' a) : PairT h' P' L ys :=
  let ⟨Ts, d1, d2, d3⟩ := D; ⟨Ts, d1.at kL, d2, fun i T y e1 e2 => let ⟨p, a, b, x⟩ := d3 i T y e1 e2; ⟨hp T (let ⟨o, ho, _⟩ := x; ⟨o, ho⟩) p, a, b, x.at fun o e => k _ o p e⟩⟩
theorem PairT.snoc {h h' : Heap} {P : Addr → Prop} {L T : Addr} {ys : List (Int × Int)} {y : Int × Int} {ta tb : Tok} (D : ∃ Ts : List Addr, h'.PlainList L ((Ts.map Value.ref).toArray.push (.ref T)) ∧ Ts.length = ys.length ∧ ∀ (i : Nat) (T : Addr) (y : Int × Int), Ts[i]? = some T → ys[i]? = some y → P T ∧ ∃ ta tb, h.IsTuple T #[.int y.1 ta, .int y.2 tb])
    (k : ∀ a o, P a → h.get? a = some o → h'.get? a = some o) (hT : h.IsTuple T #[.int y.1 ta, .int y.2 tb]) (hP : P T) : PairT h' P L (ys ++ [y]) := by
  obtain ⟨Ts, d1, d2, d3⟩ := D
  refine ⟨Ts ++ [T], by simpa using d1, by simp [d2], fun i T' y' e1 e2 => ?_⟩
  by_cases hi : i < Ts.length
  · rw [List.getElem?_append_left hi] at e1
    rw [List.getElem?_append_left (d2 ▸ hi)] at e2
    obtain ⟨p, a, b, x⟩ := d3 i T' y' e1 e2
    exact ⟨p, a, b, x.at fun o e => k _ o p e⟩
  · have hi' : i = Ts.length := by
      have := (List.getElem?_eq_some_iff.mp e1).1
      rw [List.length_append, List.length_singleton] at this
      omega
    subst hi'
    simp at e1
    rw [d2] at e2
    simp at e2
    subst e1 e2
    exact ⟨hP, ta, tb, hT.at fun o e => k _ o hP e⟩

/-- l.append((e1, e2)) -/
theorem push_pair {w : World} {A : Around} {E : Value → Shared → Prop} {s : Shared} {env : Env} {h₀ : Heap} {v : Str → Option Value} {P : Addr → Prop} {nm : Str} {Bg : Addr} {ys : List (Int × Int)} {y : Int × Int} {e1 e2 : Expr} {k : Nat} {p1 p2 p3 p4 p5 : Pos} {Q : Flow → Shared → Prop}
    (F : FF env h₀ v s.heap) (hv : v nm = some (.ref Bg)) (held : Held env nm = true) (D : PairT s.heap P Bg ys) (hz : ys.length ≤ 1000) (hP : ∀ r, Above s.heap r → P r) (hPB : ∀ r, P r → r ≠ Bg)
    (he : wpAny (model P0 w) A (spliced (backTo p3 (starEach [e1, e2] env))) (fun vs s₁ => ∃ ta tb, vs = [.int y.1 ta, .int y.2 tb] ∧ Sm s s₁ ∧ Ext s.heap s₁.heap) E s)
    (h : ∀ s', Sm s s' → (∀ b o, b ≠ Bg → s.heap.get? b = some o → s'.heap.get? b = some o) → PairT s'.heap P Bg (ys ++ [y]) → Q .next s')
    (hline : (p2.endLine == p4.line) = true := by rfl) (hi : interactive env = false := by rfl) (hd : (nm == ("__debug__" : Str)) = false := by decide) :
    wpAny (model P0 w) A (exec (.Expr (.Call (.Attribute (.Name nm p1) (Str.ofString "append") p2) [.Tuple [e1, e2] k p3] [] p4) p5) env) Q E s := by
  obtain ⟨Ts, d1, d2, d3⟩ := id D
  refine wpAny_Expr_any (mB1 (T := "list") (id := "list.append") PySem.F.plainAttrs_list slot_list_append PySem.F.type_list_append (nmF F hv ⟨d1.isList.typeIs, fun a e => (by cases e; obtain ⟨n, ho⟩ := d1; exact ⟨_, ho, rfl⟩), wpAny_Tuple_spliced (wpAny_mono he (fun vs s₁ h₁ => ?_) fun _ _ e => e)⟩ held hd) rfl rfl hline) hi
  obtain ⟨ta, tb, rfl, M₁, k₁⟩ := h₁
  refine ⟨by simp [sizeLine_eq], ?_⟩
  have hT : (s₁.heap.push { cls := .type "tuple", data := .seq ([Value.int y.1 ta, .int y.2 tb]).toArray }).IsTuple s₁.heap.objs.size #[.int y.1 ta, .int y.2 tb] := ⟨_, Heap.get?_push_size _ rfl, rfl, _, rfl⟩
  have k₂ := Ext.push' s₁.heap { cls := .type "tuple", data := .seq ([Value.int y.1 ta, .int y.2 tb]).toArray }
  have hab : Above s.heap s₁.heap.objs.size := (Above.size _).ext k₁
  generalize s₁.heap.objs.size = T at hT hab ⊢
  generalize s₁.heap.push { cls := .type "tuple", data := .seq ([Value.int y.1 ta, .int y.2 tb]).toArray } = H2 at hT k₂ ⊢
  refine wpAny_list_append_plain (s := { s₁ with heap := H2 }) ((d1.at fun o e => k₁ _ _ e).at fun o e => k₂ _ _ e) (fun h₃ hp3 hs3 => ?_) (by rw [List.size_toArray, List.length_map, d2, sizeLine_eq]; omega)
  refine h _ ⟨M₁.gens, M₁.os⟩ (fun b o hb e => hs3.extBut b o hb (k₂ _ _ (k₁ _ _ e))) ?_
  refine PairT.snoc (h := H2) (T := T) ⟨Ts, hp3, d2, fun i T y e1 e2 => let ⟨p, a, b, x⟩ := d3 i T y e1 e2; ⟨p, a, b, (x.at fun o e => k₁ _ _ e).at fun o e => k₂ _ _ e⟩⟩ (fun a o p e => hs3.extBut a o (hPB a p) e) hT (hP T hab)

def sumBelow (ends : List (Int × Int)) (p : Int) : Int := ((ends.filter fun e => decide (e.1 < p)).map (·.2)).sum
def laterOf (f : Nat → List Int) (ends : List (Int × Int)) (c : Nat) : List (Int × Int) := (f c).map fun p => (p, sumBelow ends p)
def endsTo (f : Nat → List Int) (word : Str) : Nat → List (Int × Int)
  | 0 => [(-1, 1)]
  | i + 1 => laterOf f (endsTo f word i) (word.cps.getD i 0)
/-- the dict of places -/
def PlacesAt (w : World) (h : Heap) (d : Addr) (f : Nat → List Int) : Prop :=
  ∃ kvs, h.DictOf (strKind P0 w) d kvs ∧ ∀ c, c = 54 ∨ c = 55 ∨ c = 57 → ∃ L, valueAt kvs (one1 c) = some (.ref L) ∧ IntsL h L (f c)
theorem PlacesAt.ext {w : World} {h h' : Heap} {d : Addr} {f : Nat → List Int} (D : PlacesAt w h d f) (k : Ext h h') : PlacesAt w h' d f :=
  let ⟨kvs, a, b⟩ := D; ⟨kvs, a.at fun o e => k _ _ e, fun c hc => let ⟨L, x, y⟩ := b c hc; ⟨L, x, y.ext k⟩⟩

def fd259 : FuncData := ⟨(Str.ofString "_law_by_places"), (Str.ofString "_law_by_places"), fParams (st 21), .stmts (fBody (st 21)), fScope (st 21), 3, [], .none, .none, .none, .str (Str.ofString "law_zd0012_01") 839, none, .ref 258, .none, 0⟩
theorem cd259 {w : World} {h : Heap} (B : Base w h) : ∃ o, h.get? 259 = some o ∧ o.data = .func fd259 ∧ h.CodeRec (.ref 258) (Str.ofString "_law_by_places") :=
  ⟨_, B.k 259 _ rfl, rfl, 258, _, _, _, rfl, B.k 258 _ rfl, rfl, rfl⟩

theorem laterOf_len (f : Nat → List Int) (ends : List (Int × Int)) (c : Nat) : (laterOf f ends c).length = (f c).length := List.length_map ..
theorem laterOf_take {f : Nat → List Int} {ends : List (Int × Int)} {c i : Nat} {p : Int} (h : (f c)[i]? = some p) : (laterOf f ends c).take (i + 1) = (laterOf f ends c).take i ++ [(p, sumBelow ends p)] := by
  rw [List.take_add_one]
  congr 1
  unfold laterOf
  rw [List.getElem?_map, h]
  rfl

theorem places_spec {w : World} {A : Around} {E : Value → Shared → Prop} {s : Shared} {Q : Value → Shared → Prop} {d : Addr} {f : Nat → List Int} {word : Str} {tw : Tok} (B : Base w s.heap) (hA : A.depth < 800) (hh : A.handled = none)
    (hd : (d == sysModules) = false) (D : PlacesAt w s.heap d f) (hf : ∀ c, (f c).length ≤ 900) (hw : ∀ i, i < word.cps.size → word.cps.getD i 0 = 54 ∨ word.cps.getD i 0 = 55 ∨ word.cps.getD i 0 = 57) (hasc : word.cps.all (· < 128) = true)
    (h : ∀ s' t, Sm s s' → Ext s.heap s'.heap → Q (.int ((endsTo f word word.cps.size).map (·.2)).sum t) s') :
    wpAny (model P0 w) A (call (.ref 259) [.ref d, .str word tw] []) Q E s := by
  obtain ⟨o, ho, hdat, hcd⟩ := cd259 B
  refine enterF (fd := fd259) (binds := [(Str.ofString "places", .ref d), (Str.ofString "word", .str word tw)]) B (by unfold recursionLimit; omega) ho hdat hcd rfl (BindsTo.of_eq rfl) rfl (fun n => rfl) (by decide +kernel) fun s₁ M₁ F₁ => ?_
  refine wpAny_execs_cons (wpAny_Assign_Name (wpAny_List_spliced (spliced_cons ?_)))
  refine wpAny_Tuple_spliced (x1 := 0) (spliced_cons (wpAny_UnaryOp (wpAny_Constant_int (k := 0) (pos := ⟨145, 14, 145, 15⟩) (neg_int (spliced_cons (wpAny_Constant_int (k := 0) (pos := ⟨145, 17, 145, 18⟩) (spliced_nil ⟨by simp [sizeLine_eq], spliced_nil ⟨by simp [sizeLine_eq], ?_⟩⟩)))))))
  generalize s₁.toks + 1 + 1 + 1 = tk5
  generalize s₁.toks + 1 + 1 = tk4
  generalize s₁.toks + 1 = tk3
  show wpAny _ _ (storeName _ _ (.ref (s₁.heap.push { cls := .type "tuple", data := .seq ([Value.int (-1) tk3, .int 1 tk4]).toArray }).objs.size)) _ _ { s₁ with heap := (s₁.heap.push { cls := .type "tuple", data := .seq ([Value.int (-1) tk3, .int 1 tk4]).toArray }).push { cls := .type "list", data := .seq ([Value.ref s₁.heap.objs.size]).toArray }, toks := tk5 }
  have kT := Ext.push' s₁.heap { cls := .type "tuple", data := .seq ([Value.int (-1) tk3, .int 1 tk4]).toArray }
  have hT : (s₁.heap.push { cls := .type "tuple", data := .seq ([Value.int (-1) tk3, .int 1 tk4]).toArray }).IsTuple s₁.heap.objs.size #[.int (-1) tk3, .int 1 tk4] := ⟨_, Heap.get?_push_size _ rfl, rfl, _, rfl⟩
  have hTA : Above s₁.heap s₁.heap.objs.size := Above.size _
  have hTP : ¬ Priv (callEnvC fd259 s.heap.objs.size 259) s₁.heap.objs.size := F₁.size_notPriv (Nat.le_refl _)
  have F₃ := F₁.ext kT
  generalize s₁.heap.objs.size = T at hT hTA hTP ⊢
  generalize s₁.heap.push { cls := .type "tuple", data := .seq ([Value.int (-1) tk3, .int 1 tk4]).toArray } = H3 at kT hT F₃ ⊢
  have kB := Ext.push' H3 { cls := .type "list", data := .seq ([Value.ref T]).toArray }
  have hB : (H3.push { cls := .type "list", data := .seq ([Value.ref T]).toArray }).PlainList H3.objs.size #[.ref T] := ⟨_, Heap.get?_push_size _ rfl⟩
  have hBP : ¬ Priv (callEnvC fd259 s.heap.objs.size 259) H3.objs.size := F₃.size_notPriv (Nat.le_refl _)
  have F₄ := F₃.ext kB
  generalize H3.objs.size = En at hB hBP ⊢
  generalize H3.push { cls := .type "list", data := .seq ([Value.ref T]).toArray } = H4 at kB hB F₄ ⊢
  refine stF (s := { s₁ with heap := H4, toks := tk5 }) F₄ (by kernel_rfl) fun s₅ M₅ F₅ S₅ => ?_
  have hB5 : s₅.heap.PlainList En #[.ref T] := hB.at fun o e => S₅ _ _ hBP e
  have hT5 := hT.at (h' := s₅.heap) fun o e => S₅ _ _ hTP (kB _ _ e)
  have M5 : Sm s s₅ := ⟨M₅.gens.trans M₁.gens, M₅.os.trans M₁.os⟩
  have P5 : PairT s₅.heap (fun a => ¬ Priv (callEnvC fd259 s.heap.objs.size 259) a) En (endsTo f word 0) := by
    refine ⟨[T], hB5, rfl, fun i T' y e1 e2 => ?_⟩
    cases i with
    | zero =>
      simp [endsTo] at e1 e2
      subst e1 e2
      exact ⟨hTP, _, _, hT5⟩
    | succ i => simp at e1
  have hlenE : ∀ i, (endsTo f word i).length ≤ 900 := fun i => by
    cases i with
    | zero => exact Nat.succ_le_of_lt (by decide)
    | succ i => rw [endsTo, laterOf_len]; exact hf _
  refine wpAny_execs_cons ?_
  refine For_rule (n := word.cps.size) (P := SignAt word) (fun _ => False) (fun Z i v h => ∃ En, v (Str.ofString "ends") = some (.ref En) ∧ v (Str.ofString "places") = some (.ref d) ∧ ¬ Z En ∧ ¬ Priv (callEnvC fd259 s.heap.objs.size 259) En ∧
      PairT h (fun a => ¬ Z a ∧ ¬ Priv (callEnvC fd259 s.heap.objs.size 259) a) En (endsTo f word i))
      (A := A.deeper _) F₅ (fun _ q => q.elim) (nmF F₅ rfl (src_str hh hasc) (by kernel_rfl)) ?_ (by kernel_rfl) ?_ ?_ ?_
  · rintro Z h hZ k
    have nz : ∀ a, (∃ o, s₅.heap.get? a = some o) → ¬ Z a := fun a ⟨o, ho⟩ q => by rw [hZ a q] at ho; cases ho
    exact ⟨En, rfl, rfl, nz En (by obtain ⟨n, ho⟩ := hB5; exact ⟨_, ho⟩), hBP, P5.step (fun o e => k _ _ e) (fun a o _ e => k _ _ e) fun a ho p => ⟨nz a ho, p⟩⟩
  · rintro Z i v h h₁ hi ⟨En, x1, x2, x3, x4, x5⟩ k
    exact ⟨En, x1, x2, x3, x4, x5.step (fun o e => k _ _ x4 x3 e) (fun a o p e => k _ _ p.2 p.1 e) fun a _ p => p⟩
  · rintro Z i val s₆ v hi ⟨c, u, hc, rfl⟩ M₆ hZ2 hZ3 F₆ ⟨En, x1, x2, x3, x4, x5⟩ E'
    have hc1 : word.cps.getD i 0 = c := by rw [Array.getD_eq_getD_getElem?, hc]; rfl
    have hc2 : c = 54 ∨ c = 55 ∨ c = 57 := hc1 ▸ hw i hi
    have B₆ : Base w s₆.heap := B.ext F₆.keep
    -- later = []
    refine wpAny_execs_cons (wpAny_Assign_Name (wpAny_List_spliced (spliced_nil ⟨Nat.zero_le _, ?_⟩)))
    have kL := Ext.push' s₆.heap { cls := .type "list", data := .seq ([] : List Value).toArray }
    have hL : (s₆.heap.push { cls := .type "list", data := .seq ([] : List Value).toArray }).PlainList s₆.heap.objs.size #[] := ⟨_, Heap.get?_push_size _ rfl⟩
    have hLP : ¬ Priv (callEnvC fd259 s.heap.objs.size 259) s₆.heap.objs.size := F₆.size_notPriv (Nat.le_refl _)
    have hLA : Above s₆.heap s₆.heap.objs.size := Above.size _
    have F₇ := F₆.ext kL
    generalize s₆.heap.objs.size = Lt at hL hLP hLA ⊢
    refine stF (s := { s₆ with heap := _ }) F₇ (by kernel_rfl) fun s₈ M₈ F₈ S₈ => ?_
    have hL8 : s₈.heap.PlainList Lt #[] := hL.at fun o e => S₈ _ _ hLP e
    have k68 : ∀ b o, ¬ Priv (callEnvC fd259 s.heap.objs.size 259) b → s₆.heap.get? b = some o → s₈.heap.get? b = some o := fun b o hp e => S₈ b o hp (kL _ _ e)
    have hLs : s.heap.get? Lt = none := none_of_ext F₆.keep hLA.none
    have nLt : ∀ a, (∃ o, s₆.heap.get? a = some o) → a ≠ Lt := fun a ⟨o, ho⟩ e => by rw [e, hLA.none] at ho; cases ho
    have hEnL : En ≠ Lt := nLt En (by obtain ⟨Ts, ⟨n, ho⟩, _⟩ := x5; exact ⟨_, ho⟩)
    have x5' : PairT s₈.heap (fun a => ¬ Priv (callEnvC fd259 s.heap.objs.size 259) a ∧ a ≠ Lt) En (endsTo f word i) := x5.step (fun o e => k68 _ _ x4 e) (fun a o p e => k68 _ _ p.2 e) fun a ho p => ⟨p.2, nLt a ho⟩
    obtain ⟨kvs, dk, dl⟩ := id D
    obtain ⟨Lp, pv, vs, pl, pi⟩ := dl c hc2
    have hLpP : ¬ Priv (callEnvC fd259 s.heap.objs.size 259) Lp := by obtain ⟨n, ho⟩ := pl; exact F₆.notPriv ho
    have hLpL : Lp ≠ Lt := nLt Lp (by obtain ⟨n, ho⟩ := pl; exact ⟨_, F₆.keep _ _ ho⟩)
    have pl8 : s₈.heap.PlainList Lp vs.toArray := pl.at fun o e => F₈.keep _ _ e
    have g1 : (fun y => if y = Str.ofString "later" then some (Value.ref Lt) else if y = Str.ofString "letter" then some (.str ⟨#[c]⟩ u) else v y) (Str.ofString "later") = some (.ref Lt) := if_pos rfl
    have g2 : (fun y => if y = Str.ofString "later" then some (Value.ref Lt) else if y = Str.ofString "letter" then some (.str ⟨#[c]⟩ u) else v y) (Str.ofString "letter") = some (.str (one1 c) u) := by
      show (if _ then _ else _) = _
      rw [if_neg (by decide), if_pos rfl]; rfl
    have g3 : (fun y => if y = Str.ofString "later" then some (Value.ref Lt) else if y = Str.ofString "letter" then some (.str ⟨#[c]⟩ u) else v y) (Str.ofString "ends") = some (.ref En) := by
      show (if _ then _ else _) = _
      rw [if_neg (by decide), if_neg (by decide)]; exact x1
    have g4 : (fun y => if y = Str.ofString "later" then some (Value.ref Lt) else if y = Str.ofString "letter" then some (.str ⟨#[c]⟩ u) else v y) (Str.ofString "places") = some (.ref d) := by
      show (if _ then _ else _) = _
      rw [if_neg (by decide), if_neg (by decide)]; exact x2
    generalize (fun y => if y = Str.ofString "later" then some (Value.ref Lt) else if y = Str.ofString "letter" then some (.str ⟨#[c]⟩ u) else v y) = v8 at F₈ g1 g2 g3 g4
    have hvl : vs.length = (f c).length := intsAre_len pi
    refine wpAny_execs_cons ?_
    refine For_rule (n := vs.toArray.size) (P := fun i v => vs.toArray[i]? = some v) (fun a => a = Lt) (fun Z' j v h => v (Str.ofString "later") = some (.ref Lt) ∧ v (Str.ofString "ends") = some (.ref En) ∧ v (Str.ofString "places") = some (.ref d) ∧ ¬ Z' Lt ∧ ¬ Z' En ∧
        (∀ b, Z' b → s₈.heap.get? b = none) ∧ (∀ b o, ¬ Priv (callEnvC fd259 s.heap.objs.size 259) b → b ≠ Lt → s₈.heap.get? b = some o → h.get? b = some o) ∧
        PairT h (fun a => ¬ Z' a ∧ ¬ Priv (callEnvC fd259 s.heap.objs.size 259) a ∧ a ≠ Lt ∧ s₆.heap.get? a = none) Lt ((laterOf f (endsTo f word i) c).take j))
      (A := A.deeper _) F₈ (fun b q => by rw [q]; obtain ⟨n, ho⟩ := hL8; exact ⟨_, ho⟩)
      (SubX (nmF F₈ g4 (nmF F₈ g2 (onDict (dk.at fun o e => F₈.keep _ _ e) pv (src_list (s := s₈) hh ⟨rfl, rfl⟩ (fun _ _ e => e) pl8.isList hLpP hLpL)) (by kernel_rfl)) (by kernel_rfl))) ?_ (by kernel_rfl) ?_ ?_ ?_
    · rintro Z' h hZ' k
      have nz : ∀ a, (∃ o, s₈.heap.get? a = some o) → ¬ Z' a := fun a ⟨o, ho⟩ q => by rw [hZ' a q] at ho; cases ho
      exact ⟨g1, g3, g4, nz Lt (by obtain ⟨n, ho⟩ := hL8; exact ⟨_, ho⟩), nz En (by obtain ⟨Ts, ⟨n, ho⟩, _⟩ := x5'; exact ⟨_, ho⟩), hZ', fun b o _ _ e => k _ _ e, [], hL8.at fun o e => k _ _ e, rfl, fun i T p e => by simp at e⟩
    · rintro Z' j v h h₁ hj ⟨y1, y2, y3, y4, y5, y6, y7, y8⟩ k
      exact ⟨y1, y2, y3, y4, y5, y6, fun b o hp hb e => k b o hp (fun q => by rw [y6 b q] at e; cases e) (y7 b o hp hb e), y8.step (fun o e => k _ _ hLP y4 e) (fun a o p e => k _ _ p.2.1 p.1 e) fun a _ p => p⟩
    · rintro Z' j val s₉ v' hj hval M₉ hZ2' hZ3' F₉ ⟨y1, y2, y3, y4, y5, y6, y7, y8⟩ E''
      have hval : vs[j]? = some val := by simpa using hval
      obtain ⟨p, tp, hp, rfl⟩ := intsAre_val pi hval
      have B₉ : Base w s₉.heap := B.ext F₉.keep
      have x9 : PairT s₉.heap (fun _ => True) En (endsTo f word i) := x5'.step (fun o e => y7 _ _ x4 hEnL e) (fun a o p e => y7 _ _ p.1 p.2 e) fun _ _ _ => trivial
      have q0 : (fun y => if y = Str.ofString "place" then some (Value.int p tp) else v' y) (Str.ofString "place") = some (.int p tp) := if_pos rfl
      have q1 : (fun y => if y = Str.ofString "place" then some (Value.int p tp) else v' y) (Str.ofString "later") = some (.ref Lt) := by
        show (if _ then _ else _) = _
        rw [if_neg (by decide)]; exact y1
      have q2 : (fun y => if y = Str.ofString "place" then some (Value.int p tp) else v' y) (Str.ofString "ends") = some (.ref En) := by
        show (if _ then _ else _) = _
        rw [if_neg (by decide)]; exact y2
      have q3 : (fun y => if y = Str.ofString "place" then some (Value.int p tp) else v' y) (Str.ofString "places") = some (.ref d) := by
        show (if _ then _ else _) = _
        rw [if_neg (by decide)]; exact y3
      generalize (fun y => if y = Str.ofString "place" then some (Value.int p tp) else v' y) = v9 at F₉ q0 q1 q2 q3
      have hLt9 : ∃ o, s₉.heap.get? Lt = some o := by obtain ⟨Ts, ⟨n, ho⟩, _⟩ := y8; exact ⟨_, ho⟩
      have hPn : ∀ r, Above s₉.heap r → ¬ Z' r ∧ ¬ Priv (callEnvC fd259 s.heap.objs.size 259) r ∧ r ≠ Lt ∧ s₆.heap.get? r = none := fun r hr => by
        have hrP := F₉.nP hr.none
        have hrL : r ≠ Lt := fun e => by obtain ⟨o, ho⟩ := hLt9; rw [← e, hr.none] at ho; cases ho
        refine ⟨fun q => (by obtain ⟨o, ho⟩ := hZ2' r q; rw [hr.none] at ho; cases ho), hrP, hrL, ?_⟩
        cases e : s₆.heap.get? r with
        | none => rfl
        | some o => have := y7 r o hrP hrL (k68 r o hrP e); rw [hr.none] at this; cases this
      refine wpAny_execs_cons (push_pair (y := (p, sumBelow (endsTo f word i) p)) F₉ q1 (by kernel_rfl) y8 (by rw [List.length_take, laterOf_len]; have := hf c; omega) hPn (fun r p => p.2.2.1) ?_ fun sB MB kB TB => wpAny_execs_nil ?_)
      · refine spliced_cons (nmF F₉ q0 (spliced_cons (callB1 (id := "sum") (fun Q' q => nmB B₉ (by kernel_rfl) (by decide +kernel) q rfl (by kernel_rfl) rfl rfl) ?_)) (by kernel_rfl))
        refine CompL (ns := [Str.ofString "place"]) (n := (endsTo f word i).length) (fun bad k l h => IntsAre l ((((endsTo f word i).take k).filter fun e : Int × Int => decide (e.1 < p)).map fun e : Int × Int => e.2)) F₉ (by rw [sizeLine_eq]; have := hlenE i; omega)
          (nmF F₉ q2 (srcF_pairs (A := A.deeper _) hh F₉ x9.pairs (by decide +kernel) (by decide +kernel) (by decide)) (by kernel_rfl)) (fun _ _ _ _ => .nil) (fun _ _ _ _ _ a _ => a) ?_ ?_
        · rintro bad C k l sC vC hk MC kC FC ⟨pe, ta, tb, hpe, e1, e2⟩ hvC _ hjC EC
          refine Tests.one (wpAny_isTrue_Compare1 (nmF FC e1 (nmF FC ((hvC _ (by decide +kernel)).trans q0) (lt_int (wpAny_truthy_bool ?_)) (by kernel_rfl)) (by kernel_rfl)))
          rw [take_filter_map hpe]
          cases hc : decide (pe.1 < p) with
          | false =>
            simp only [Bool.false_eq_true, if_false, List.append_nil]
            exact ⟨⟨rfl, rfl⟩, fun _ _ e => e, hjC⟩
          | true =>
            simp only [if_true]
            exact nmF FC e2 ⟨⟨rfl, rfl⟩, fun _ _ e => e, intsAre_snoc _ _ hjC⟩ (by kernel_rfl)
        · intro bad Dl l sC MC kC hDl FC hl hjC
          rw [List.take_length] at hjC
          refine sum_ints hh hl.isList hjC fun sD tD MD kD => spliced_nil ⟨_, _, rfl, MC.trans' MD, kC.trans' kD⟩
      · refine ⟨M₉.trans' MB, fun b o hb hX e => kB b o hX e, _, F₉.mut hLP hLs kB, q1, q2, q3, y4, y5, y6, fun b o hb hX e => kB b o hX (y7 b o hb hX e), ?_⟩
        rw [laterOf_take hp]
        exact TB
    · rintro Z' s₉ v' M₉ F₉ ⟨y1, y2, y3, y4, y5, y6, y7, y8⟩
      have hsz : vs.toArray.size = (laterOf f (endsTo f word i) c).length := by rw [laterOf_len, List.size_toArray, hvl]
      rw [hsz, List.take_length] at y8
      refine wpAny_execs_cons (wpAny_Assign_Name (nmF F₉ y1 (stF F₉ (by kernel_rfl) fun sA MA FA SA => wpAny_execs_nil ?_) (by kernel_rfl)))
      have hZL : ∀ a, s₆.heap.get? a = none → ¬ Z a := fun a ha q => by obtain ⟨o, ho⟩ := hZ2 a q; rw [ha] at ho; cases ho
      refine ⟨((M₆.trans' ⟨M₈.gens, M₈.os⟩).trans' M₉).trans' MA, fun b o hp _ e => SA b o hp (y7 b o hp (nLt b ⟨o, e⟩) (k68 b o hp e)), _, FA, Lt, if_pos rfl, ?_, hZL Lt hLA.none, hLP, ?_⟩
      · rw [if_neg (by decide)]; exact y3
      · rw [endsTo, hc1]
        exact y8.step (fun o e => SA _ _ hLP e) (fun a o p e => SA _ _ p.2.1 e) fun a _ p => ⟨hZL a p.2.2.2, p.2.1⟩
  · rintro Z s₆ v M₆ F₆ ⟨En, x1, x2, x3, x4, x5⟩
    refine wpAny_execs_cons (wpAny_Return_some ?_)
    have B₆ : Base w s₆.heap := B.ext F₆.keep
    refine callB1 (id := "sum") (fun Q' q => nmB B₆ (by kernel_rfl) (by decide +kernel) q rfl (by kernel_rfl) rfl rfl) ?_
    refine CompL (ns := []) (n := (endsTo f word word.cps.size).length) (fun bad k l h => IntsAre l (((endsTo f word word.cps.size).take k).map fun e : Int × Int => e.2)) F₆ (by rw [sizeLine_eq]; have := hlenE word.cps.size; omega)
      (nmF F₆ x1 (srcF_pairs (A := A.deeper _) hh F₆ x5.pairs (by decide +kernel) (by decide +kernel) (by decide)) (by kernel_rfl)) (fun _ _ _ _ => .nil) (fun _ _ _ _ _ a _ => a) ?_ ?_
    · rintro bad C k l sC vC hk MC kC FC ⟨pe, ta, tb, hpe, e1, e2⟩ hvC _ hjC EC
      refine Tests.nil ?_
      simp only [if_true]
      refine nmF FC e2 ⟨⟨rfl, rfl⟩, fun _ _ e => e, ?_⟩ (by kernel_rfl)
      rw [List.take_add_one, hpe, List.map_append]
      exact intsAre_snoc _ _ hjC
    · intro bad Dl l sC MC kC hDl FC hl hjC
      rw [List.take_length] at hjC
      exact sum_ints hh hl.isList hjC fun sD tD MD kD => h _ _ ((M5.trans' M₆).trans' (MC.trans' MD)) (FC.keep.trans' kD)
end Zd

namespace Zd
open PySem PySem.W PyProof.Rows PySem.Calls

theorem intsAre_of : ∀ (l : List Value), (∀ v ∈ l, ∃ n t, v = Value.int n t) → ∃ ms, IntsAre l ms
  | [], _ => ⟨[], .nil⟩
  | v :: r, h => by
    obtain ⟨n, t, rfl⟩ := h v (List.mem_cons_self ..)
    obtain ⟨ms, hm⟩ := intsAre_of r fun v hv => h v (List.mem_cons_of_mem _ hv)
    exact ⟨n :: ms, .cons n t hm⟩
theorem intsAre_mem : ∀ {vs : List Value} {ns : List Int}, IntsAre vs ns → ∀ v ∈ vs, ∃ n t, v = Value.int n t
  | _, _, .nil, v, h => by cases h
  | _, _, .cons n t r, v, h => by
    rcases List.mem_cons.mp h with rfl | h
    · exact ⟨n, t, rfl⟩
    · exact intsAre_mem r v h
theorem intsAre_pick {vs : List Value} {ns : List Int} (h : IntsAre vs ns) (lo hi st : Option Int) : ∃ ms, IntsAre (slicePick vs.toArray lo hi st).toList ms := by
  refine intsAre_of _ fun v hv => ?_
  unfold slicePick at hv
  simp only [List.mem_filterMap] at hv
  obtain ⟨i, _, e⟩ := hv
  refine intsAre_mem h v ?_
  have e : vs[i]? = some v := by simpa using e
  exact List.mem_of_getElem? e

section
variable {w : World} {A : Around} {E : Value → Shared → Prop} {s : Shared} {env : Env}
/-- l[i::k] -/
theorem slice3 {value lower st : Expr} {p pos : Pos} {Q : Value → Shared → Prop}
    (h : wpAny (model P0 w) A (eval value env) (fun o s₁ => wpAny (model P0 w) A (eval lower env) (fun vl s₂ => wpAny (model P0 w) A (eval st env) (fun vk s₃ =>
      ∃ l items i t k u, o = .ref l ∧ s₃.heap.IsList l items ∧ items.size ≤ sizeLine ∧ vl = .int i t ∧ vk = .int k u ∧ k ≠ 0 ∧
        ∀ s' R, Sm s₃ s' → Ext s₃.heap s'.heap → s'.heap.IsList R (slicePick items (some i) none (some k)) → Q (.ref R) s') E s₂) E s₁) E s)
    (ht : ∀ o r, letTemporaryGo value o r = pure () := by intro _ _; rfl) :
    wpAny (model P0 w) A (eval (.Subscript value (.Slice (some lower) none (some st) p) pos) env) Q E s := by
  refine wpAny_Subscript_Slice_step (T := "list") list_getitem_lookup (wpAny_mono h (fun o s₁ h₁ => wpAny_Slice (evalPart_some_step (wpAny_mono h₁ (fun vl s₂ h₂ => evalPart_none_step (evalPart_some_step (wpAny_mono h₂ (fun vk s₃ h₃ => ?_) fun _ _ e => e))) fun _ _ e => e))) fun _ _ e => e) ht
  obtain ⟨l, items, i, t, k, u, rfl, hl, hsz, rfl, rfl, hk, hQ⟩ := h₃
  refine ⟨(hl.push _).typeIs, wpAny_getItem_list_slice (hl.push _) (Heap.IsSliceOf.new ..) (.int i t) .none (.int k u) (by simpa using hk) ?_ hsz⟩
  exact hQ _ _ ⟨rfl, rfl⟩ ((Ext.push' _ _).trans' (Ext.push' _ _)) ⟨_, Heap.get?_push_size _ rfl, rfl, _, rfl⟩
end

def fd276 : FuncData := ⟨(Str.ofString "law"), (Str.ofString "law"), fParams (st 24), .stmts (fBody (st 24)), fScope (st 24), 3, [], .none, .none, .none, .str (Str.ofString "law_zd0012_01") 839, none, .ref 275, .none, 0⟩
theorem cd276 {w : World} {h : Heap} (B : Base w h) : ∃ o, h.get? 276 = some o ∧ o.data = .func fd276 ∧ h.CodeRec (.ref 275) (Str.ofString "law") :=
  ⟨_, B.k 276 _ rfl, rfl, 275, _, _, _, rfl, B.k 275 _ rfl, rfl, rfl⟩
abbrev LE (n : Nat) : Env := callEnvC fd276 n 276
def ls (k : Nat) : Stmt := (fBody (st 24)).getD k (.Pass default)
@[irreducible] def lawB : List Stmt := fBody (st 24)
@[irreducible] def lawC : List Stmt := (fBody (st 24)).drop 1
@[irreducible] def ownL : List (Int × Nat × Pos) := [(21, 0, ⟨178, 11, 178, 13⟩), (12, 0, ⟨178, 15, 178, 17⟩), (45, 0, ⟨178, 19, 178, 21⟩), (162, 0, ⟨178, 23, 178, 26⟩), (4, 0, ⟨178, 28, 178, 29⟩), (33, 0, ⟨178, 31, 178, 33⟩), (27, 0, ⟨178, 35, 178, 37⟩), (4, 0, ⟨178, 39, 178, 40⟩), (3, 0, ⟨178, 42, 178, 43⟩)]
@[irreducible] def lawS0 : Stmt := ls 0
theorem ownL_len : ownL.length = 9 := by unfold ownL; rfl
theorem lawS0_eq : lawS0 = .Assign [.Name (Str.ofString "own") ⟨178, 4, 178, 7⟩] (.List (ownL.map fun x => .Constant (.int x.1) x.2.1 x.2.2) ⟨178, 10, 178, 44⟩) ⟨178, 4, 178, 44⟩ := by
  unfold lawS0 ownL
  kernel_rfl
theorem lawB_eq : lawB = lawS0 :: lawC := by
  unfold lawB lawC lawS0
  kernel_rfl
theorem lawC_eq : lawC = ls 1 :: (fBody (st 24)).drop 2 := by
  unfold lawC
  kernel_rfl
theorem fd276_body : fd276.body = .stmts lawB := by
  unfold lawB
  rfl

def abc (k : Int) : Nat := [54, 55, 57].getD k.toNat 0
def oneW (d : Int) : Str := Txt.slice (one1 (abc (d / 3 % 3)) ++ one1 (abc (d / 3 / 3 % 3)) ++ one1 (abc (d / 3 / 9 % 3))) none (some (1 + d % 3))
def twoW (d : Int) : Str := one1 (abc (d % 3)) ++ one1 (abc (d / 3 % 3))

section
variable {w : World} {A : Around} {E : Value → Shared → Prop} {s : Shared} {n : Nat} {h₀ : Heap} {v : Str → Option Value} {env : Env}
/-- '679'[e] -/
theorem abcE {e : Expr} {k : Nat} {p1 p2 : Pos} {Q : Value → Shared → Prop} (tk : Nat)
    (h : ∀ tk, wpAny (model P0 w) A (eval e env) (fun x s₁ => ∃ i t, x = .int i t ∧ 0 ≤ i ∧ i < 3 ∧ ∀ t' m, Q (.str (one1 (abc i)) t') { s₁ with toks := m }) E { s with toks := tk })
    (hs : ∀ o i, subscripted e false o i = operate [o, i] (getItem o i) := by intro _ _; with_unfolding_all rfl) :
    wpAny (model P0 w) A (eval (.Subscript (.Constant (.str (Str.ofString "679")) k p1) e p2) env) Q E { s with toks := tk } := by
  refine SubX (Constant_str (s := { s with toks := tk }) (wpAny_mono (h _) (fun x s₁ h₁ => ?_) fun _ _ e => e)) hs
  obtain ⟨i, t, rfl, h0, h1, hQ⟩ := h₁
  refine onStr (c := abc i) h0 (by omega) ?_ hQ
  have : i = 0 ∨ i = 1 ∨ i = 2 := by omega
  rcases this with rfl | rfl | rfl <;> decide +kernel

theorem segA0 {vs : List Value} {ns : List Int} {a : Addr} (B : Base w h₀) (hA : A.depth < 800) (hh : A.handled = none) (F : FF (LE n) h₀ v s.heap) (hv : v (Str.ofString "script") = some (.ref a)) (hap : ¬ Priv (LE n) a) (hl : s.heap.IsList a vs.toArray) (hi : IntsAre vs ns) (hz : ns.length ≤ 63)
    {Q : Flow → Shared → Prop}
    (h : ∀ s' Dr ds v', Sm s s' → FF (LE n) h₀ v' s'.heap → v' (Str.ofString "drawn") = some (.ref Dr) → ¬ Priv (LE n) Dr → IntsL s'.heap Dr ds → ds.length = 9 → wpAny (model P0 w) A (execs ((fBody (st 24)).drop 2) (LE n)) Q E s') :
    wpAny (model P0 w) A (execs lawB (LE n)) Q E s := by
  rw [lawB_eq]
  refine wpAny_execs_cons ?_
  rw [lawS0_eq]
  refine wpAny_Assign_Name (List_ints ownL (by rw [ownL_len]; decide) fun s₁ ws M₁ e₁ iw => ?_)
  have hO : (s.heap.push { cls := .type "list", data := .seq ws.toArray }).PlainList s.heap.objs.size ws.toArray := ⟨_, Heap.get?_push_size _ rfl⟩
  have hOP : ¬ Priv (LE n) s.heap.objs.size := F.size_notPriv (Nat.le_refl _)
  have k₁ := Ext.push' s.heap { cls := .type "list", data := .seq ws.toArray }
  rw [← e₁] at hO k₁
  have F₁ := F.ext k₁
  generalize s.heap.objs.size = O at hO hOP ⊢
  refine stF F₁ (by kernel_rfl) fun s₂ M₂ F₂ S₂ => ?_
  have hO2 : s₂.heap.PlainList O ws.toArray := hO.at fun o e => S₂ _ _ hOP e
  show wpAny _ _ (execs lawC _) _ _ _
  rw [lawC_eq]
  refine wpAny_execs_cons ?_
  have B₂ : Base w s₂.heap := B.ext F₂.keep
  refine wpAny_Assign_Name (CompL (ns := [Str.ofString "script", Str.ofString "own"]) (n := 9) (Up := fun i v' => ∃ val, (∃ t, val = .int i t) ∧ v' (Str.ofString "i") = some val)
    (fun bad i l h => ∃ ds, IntsAre l ds ∧ ds.length = i) F₂ (by rw [sizeLine_eq]; decide) ?_ (fun bad h _ _ => ⟨[], .nil, rfl⟩) (fun bad i l h h₁ a _ => a) ?_ ?_)
  · refine callT1 (T := "range") (fun Q' q => nmB B₂ (by kernel_rfl) (by decide +kernel) q rfl (by kernel_rfl) rfl rfl) (wpAny_Constant_int ?_)
    refine wpAny_mono (src_range (n := 9) (s := s₂) (s₁ := { s₂ with toks := _ }) (X := fun _ => False) (env := LE n) hh ⟨rfl, rfl⟩ (fun _ _ e => e)) (fun xv s₄ q => wpAny_mono q (fun it s₅ q => ⟨q.1, q.2.1, SrcF.name F₂ (by decide +kernel) q.2.2⟩) fun _ _ e => e) fun _ _ e => e
  · rintro bad C i l s₃ v' hi₉ M₃ k₃ F₃ ⟨val, ⟨tj, rfl⟩, e1⟩ hv' hbad ⟨ds, hds, hdl⟩ E'
    refine Tests.nil ?_
    simp only [if_true]
    have B₃ : Base w s₃.heap := B₂.ext k₃
    obtain ⟨m, u, hm⟩ : ∃ m u, ws[i]? = some (.int m u) := by
      have hlt : i < ws.length := by rw [intsAre_len iw, List.length_map, ownL_len]; exact hi₉
      obtain ⟨m, u, _, e⟩ := intsAre_val iw (i := i) (List.getElem?_eq_getElem hlt)
      exact ⟨m, u, by rw [List.getElem?_eq_getElem hlt, e]⟩
    refine wpAny_BinOp (SubX (nmF F₃ ((hv' _ (by decide +kernel)).trans (if_pos rfl)) (nmF F₃ e1 (onList (x := .int m u) (hO2.at fun o e => k₃ _ _ e).isList (by omega) (by simpa using hm) ?_) (by kernel_rfl)) (by kernel_rfl)))
    refine callB1 (id := "sum") (fun Q' q => nmB B₃ (by kernel_rfl) (by decide +kernel) q rfl (by kernel_rfl) rfl rfl) ?_
    refine slice3 (nmF F₃ ((hv' _ (by decide +kernel)).trans ((if_neg (by decide)).trans hv)) (nmF F₃ e1 (wpAny_Constant_int ⟨a, vs.toArray, i, tj, 9, _, rfl, (hl.at fun o e => S₂ _ _ hap (k₁ _ _ e)).at fun o e => k₃ _ _ e, by rw [List.size_toArray, intsAre_len hi, sizeLine_eq]; omega, rfl, rfl, by decide, fun s₄ R M₄ k₄ hR => ?_⟩) (by kernel_rfl)) (by kernel_rfl))
    obtain ⟨ms, hms⟩ := intsAre_pick hi (some (i : Int)) none (some 9)
    refine sum_ints (vs := (slicePick vs.toArray (some (i : Int)) none (some 9)).toList) hh (by simpa using hR) hms fun s₅ t5 M₅ k₅ => ?_
    exact addI fun t6 k6 => ⟨⟨M₅.gens.trans M₄.gens, M₅.os.trans M₄.os⟩, fun b o e => k₅ _ _ (k₄ _ _ e), ds ++ [m + ms.sum], intsAre_snoc _ _ hds, by rw [List.length_append, hdl]; rfl⟩
  · rintro bad D l s₃ M₃ k₃ hD F₃ hl3 ⟨ds, hds, hdl⟩
    have hDP := F₂.nP hD.none
    refine stF F₃ (by kernel_rfl) fun s₄ M₄ F₄ S₄ => ?_
    exact h s₄ D ds _ ((((⟨M₁.gens, M₁.os⟩ : Sm s s₁).trans' M₂).trans' M₃).trans' M₄) F₄ (if_pos rfl) hDP ⟨l, hl3.at fun o e => S₄ _ _ hDP e, hds⟩ hdl
end
end Zd

namespace Zd
open PySem PySem.W PyProof.Rows PySem.Calls

section
variable {w : World} {A : Around} {E : Value → Shared → Prop} {s : Shared} {n : Nat} {h₀ : Heap} {v : Str → Option Value} {env : Env}
/-- drawn[k] -/
theorem drawnE {Dr : Addr} {ds : List Int} {k kk : Nat} {p1 p2 p3 : Pos} {Q : Value → Shared → Prop} (F : FF (LE n) h₀ v s.heap) (hv : v (Str.ofString "drawn") = some (.ref Dr)) (D : IntsL s.heap Dr ds) (hk : k < ds.length) (hkk : k < 1000)
    (h : ∀ t m, Q (.int (ds.getD k 0) t) { s with toks := m }) : wpAny (model P0 w) A (eval (.Subscript (.Name (Str.ofString "drawn") p1) (.Constant (.int k) kk p2) p3) (LE n)) Q E s := by
  obtain ⟨vs, hl, hi⟩ := D
  obtain ⟨t, ht⟩ := intsAre_at hi (i := k) (n := ds.getD k 0) (by rw [List.getD_eq_getElem?_getD, List.getElem?_eq_getElem hk]; rfl)
  exact SubX (nmF F hv (wpAny_Constant_int (onList (s := { s with toks := _ }) (x := .int (ds.getD k 0) t) hl.isList (by omega) (by simpa using ht) (h _ _))) (by kernel_rfl))

theorem one1_len (c : Nat) : (one1 c).length = 1 := rfl
theorem segA1 {Dr : Addr} {ds : List Int} (F : FF (LE n) h₀ v s.heap) (hv : v (Str.ofString "drawn") = some (.ref Dr)) (hD : ¬ Priv (LE n) Dr) (D : IntsL s.heap Dr ds) (hl : ds.length = 9)
    {Q : Flow → Shared → Prop}
    (h : ∀ s' v' t1 t2, Sm s s' → FF (LE n) h₀ v' s'.heap → v' (Str.ofString "drawn") = some (.ref Dr) → IntsL s'.heap Dr ds → v' (Str.ofString "one") = some (.str (oneW (ds.getD 7 0)) t1) → v' (Str.ofString "two") = some (.str (twoW (ds.getD 8 0)) t2) →
      wpAny (model P0 w) A (execs ((fBody (st 24)).drop 6) (LE n)) Q E s') :
    wpAny (model P0 w) A (execs ((fBody (st 24)).drop 2) (LE n)) Q E s := by
  have step : ∀ {s s' : Shared}, IntsL s.heap Dr ds → Stay (LE n) s.heap s'.heap → IntsL s'.heap Dr ds := fun ⟨vs, a, b⟩ k => ⟨vs, a.at fun o e => k _ _ hD e, b⟩
  -- third
  refine wpAny_execs_cons (wpAny_Assign_Name (wpAny_BinOp (drawnE (k := 7) F hv D (by omega) (by decide) fun t m => wpAny_Constant_int (fdivI (by decide) (by decide) fun t2 m2 => ?_))))
  refine stF (s := { s with toks := m2 }) F (by kernel_rfl) fun s₁ M₁ F₁ S₁ => ?_
  have D₁ := step D S₁
  -- one
  refine wpAny_execs_cons (wpAny_Assign_Name ?_)
  refine wpAny_BinOp (wpAny_BinOp ?_)
  refine abcE s₁.toks fun tk => wpAny_BinOp (nmF (s := { s₁ with toks := tk }) F₁ rfl (wpAny_Constant_int (modI (by decide) fun t m => ⟨_, _, rfl, by omega, by omega, fun t3 m3 => ?_⟩)) (by kernel_rfl))
  refine abcE m3 fun tk => wpAny_BinOp (wpAny_BinOp (nmF (s := { s₁ with toks := tk }) F₁ rfl (wpAny_Constant_int (fdivI (by decide) (by decide) fun t4 m4 => wpAny_Constant_int (modI (by decide) fun t m => ⟨_, _, rfl, by omega, by omega, fun t5 m5 => ?_⟩))) (by kernel_rfl)))
  refine add_str (fun t6 m6 => ?_) (by rw [sizeLine_eq]; show 1 + 1 ≤ _; decide)
  refine abcE m6 fun tk => wpAny_BinOp (wpAny_BinOp (nmF (s := { s₁ with toks := tk }) F₁ rfl (wpAny_Constant_int (fdivI (by decide) (by decide) fun t4 m4 => wpAny_Constant_int (modI (by decide) fun t m => ⟨_, _, rfl, by omega, by omega, fun t7 m7 => ?_⟩))) (by kernel_rfl)))
  refine add_str (fun t8 m8 => ?_) (by rw [sizeLine_eq]; show 2 + 1 ≤ _; decide)
  refine stF (s := { s₁ with toks := m8 }) F₁ (by kernel_rfl) fun s₂ M₂ F₂ S₂ => ?_
  have D₂ := step D₁ S₂
  have hdr : (fun y => if y = Str.ofString "one" then some (Value.str (one1 (abc (ds.getD 7 0 / 3 % 3)) ++ one1 (abc (ds.getD 7 0 / 3 / 3 % 3)) ++ one1 (abc (ds.getD 7 0 / 3 / 9 % 3))) t8) else if y = Str.ofString "third" then some (.int (ds.getD 7 0 / 3) t2) else v y) (Str.ofString "drawn") = some (.ref Dr) := by
    show (if _ then _ else if _ then _ else _) = _
    rw [if_neg (by decide), if_neg (by decide)]; exact hv
  have hon : (fun y => if y = Str.ofString "one" then some (Value.str (one1 (abc (ds.getD 7 0 / 3 % 3)) ++ one1 (abc (ds.getD 7 0 / 3 / 3 % 3)) ++ one1 (abc (ds.getD 7 0 / 3 / 9 % 3))) t8) else if y = Str.ofString "third" then some (.int (ds.getD 7 0 / 3) t2) else v y) (Str.ofString "one") = some (Value.str (one1 (abc (ds.getD 7 0 / 3 % 3)) ++ one1 (abc (ds.getD 7 0 / 3 / 3 % 3)) ++ one1 (abc (ds.getD 7 0 / 3 / 9 % 3))) t8) := if_pos rfl
  generalize (fun y => if y = Str.ofString "one" then some (Value.str (one1 (abc (ds.getD 7 0 / 3 % 3)) ++ one1 (abc (ds.getD 7 0 / 3 / 3 % 3)) ++ one1 (abc (ds.getD 7 0 / 3 / 9 % 3))) t8) else if y = Str.ofString "third" then some (.int (ds.getD 7 0 / 3) t2) else v y) = v2 at F₂ hdr hon
  refine wpAny_execs_cons (wpAny_Assign_Name ?_)
  refine sliceS (nmF F₂ hon (evalPart_none_step (evalPart_some_step (wpAny_BinOp (wpAny_Constant_int (wpAny_BinOp (drawnE (s := { s₂ with toks := _ }) (k := 7) F₂ hdr D₂ (by omega) (by decide) fun t m => wpAny_Constant_int (modI (by decide) fun t4 m4 => addI fun t5 m5 =>
    ⟨_, _, none, some (_, t5), rfl, rfl, rfl, by show 3 ≤ _; decide, fun s₃ t6 M₃ k₃ => ?_⟩))))))) (by kernel_rfl))
  have F₃ := F₂.ext k₃
  have D₃ : IntsL s₃.heap Dr ds := D₂.ext k₃
  refine stF F₃ (by kernel_rfl) fun s₄ M₄ F₄ S₄ => ?_
  have D₄ := step D₃ S₄
  refine wpAny_execs_cons (wpAny_Assign_Name (wpAny_BinOp ?_))
  have hdr4 : (fun y => if y = Str.ofString "one" then some (Value.str (oneW (ds.getD 7 0)) t6) else v2 y) (Str.ofString "drawn") = some (.ref Dr) := by
    show (if _ then _ else _) = _
    rw [if_neg (by decide)]; exact hdr
  have hon4 : (fun y => if y = Str.ofString "one" then some (Value.str (oneW (ds.getD 7 0)) t6) else v2 y) (Str.ofString "one") = some (.str (oneW (ds.getD 7 0)) t6) := if_pos rfl
  replace F₄ : FF (LE n) h₀ (fun y => if y = Str.ofString "one" then some (Value.str (oneW (ds.getD 7 0)) t6) else v2 y) s₄.heap := F₄
  generalize (fun y => if y = Str.ofString "one" then some (Value.str (oneW (ds.getD 7 0)) t6) else v2 y) = v4 at F₄ hdr4 hon4
  refine abcE s₄.toks fun tk => wpAny_BinOp (drawnE (s := { s₄ with toks := _ }) (k := 8) F₄ hdr4 D₄ (by omega) (by decide) fun t m => wpAny_Constant_int (modI (by decide) fun t m => ⟨_, _, rfl, by omega, by omega, fun t3 m3 => ?_⟩))
  refine abcE m3 fun tk => wpAny_BinOp (wpAny_BinOp (drawnE (s := { s₄ with toks := _ }) (k := 8) F₄ hdr4 D₄ (by omega) (by decide) fun t m => wpAny_Constant_int (fdivI (by decide) (by decide) fun t4 m4 => wpAny_Constant_int (modI (by decide) fun t m => ⟨_, _, rfl, by omega, by omega, fun t5 m5 => ?_⟩))))
  refine add_str (fun t6 m6 => ?_) (by rw [sizeLine_eq]; show 1 + 1 ≤ _; decide)
  refine stF (s := { s₄ with toks := m6 }) F₄ (by kernel_rfl) fun s₅ M₅ F₅ S₅ => ?_
  exact h s₅ _ _ _ ⟨M₅.gens.trans (M₄.gens.trans (M₃.gens.trans (M₂.gens.trans M₁.gens))), M₅.os.trans (M₄.os.trans (M₃.os.trans (M₂.os.trans M₁.os)))⟩ F₅ ((if_neg (by decide)).trans hdr4) (step D₄ S₅) ((if_neg (by decide)).trans hon4) (if_pos rfl)
end
end Zd

namespace Zd
open PySem PySem.W PyProof.Rows PySem.Calls

/-- a Headers object, its places in P -/
def HeadP (h : Heap) (P : Addr → Prop) (x L : Addr) : Prop := ∃ dx hs t n, P x ∧ P dx ∧ h.get? x = some (instObj 238 dx) ∧ h.get? dx = some { cls := .type "dict", data := .dict #[⟨hs, .str (Str.ofString "_headers") t, .ref L⟩] n }
theorem HeadP.head {h : Heap} {P : Addr → Prop} {x L : Addr} (H : HeadP h P x L) : HeadAt h x L := let ⟨dx, hs, t, n, _, _, a, b⟩ := H; ⟨dx, hs, t, n, a, b⟩
theorem HeadP.step {h h' : Heap} {P P' : Addr → Prop} {x L : Addr} (H : HeadP h P x L) (k : ∀ a o, P a → h.get? a = some o → h'.get? a = some o) (hp : ∀ a, (∃ o, h.get? a = some o) → P a → P' a) : HeadP h' P' x L :=
  let ⟨dx, hs, t, n, p, q, a, b⟩ := H; ⟨dx, hs, t, n, hp _ ⟨_, a⟩ p, hp _ ⟨_, b⟩ q, k _ _ p a, k _ _ q b⟩
theorem HdrL.step {h h' : Heap} {P P' : Addr → Prop} {L : Addr} {ps : List (Str × Str)} (H : HdrL h P L ps) (kL : ∀ o, h.get? L = some o → h'.get? L = some o) (k : ∀ a o, P a → h.get? a = some o → h'.get? a = some o) (hp : ∀ a, (∃ o, h.get? a = some o) → P a → P' a) : HdrL h' P' L ps :=
  let ⟨Ts, d1, d2, d3⟩ := H; ⟨Ts, d1.at kL, d2, fun i T y e1 e2 => let ⟨p, a, b, x⟩ := d3 i T y e1 e2; ⟨hp T (let ⟨o, ho, _⟩ := x; ⟨o, ho⟩) p, a, b, x.at fun o e => k _ o p e⟩⟩
theorem HdrL.lt {h : Heap} {P : Addr → Prop} {L : Addr} {ps : List (Str × Str)} (H : HdrL h P L ps) : ∃ o, h.get? L = some o := let ⟨_, ⟨n, a⟩, _⟩ := H; ⟨_, a⟩

section
variable {w : World} {A : Around} {E : Value → Shared → Prop} {s : Shared} {n : Nat} {h₀ : Heap} {v : Str → Option Value}
theorem segB (B : Base w h₀) (hA : A.depth < 700) (hh : A.handled = none) (F : FF (LE n) h₀ v s.heap)
    {Q : Flow → Shared → Prop}
    (h : ∀ s' x L T (v' : Str → Option Value), Sm s s' → FF (LE n) h₀ v' s'.heap → Stay (LE n) s.heap s'.heap → (∀ y, y ≠ Str.ofString "head" → y ≠ Str.ofString "tally" → v' y = v y) → v' (Str.ofString "head") = some (.ref x) → v' (Str.ofString "tally") = some (.ref T) →
      HeadP s'.heap (fun a => ¬ Priv (LE n) a ∧ a ≠ L) x L → HdrL s'.heap (fun a => ¬ Priv (LE n) a ∧ a ≠ L) L [] → ¬ Priv (LE n) L → h₀.get? L = none → DictSI w s'.heap T [(e0, 1)] → ¬ Priv (LE n) T → T ≠ L → (T == sysModules) = false →
      wpAny (model P0 w) A (execs ((fBody (st 24)).drop 8) (LE n)) Q E s') :
    wpAny (model P0 w) A (execs ((fBody (st 24)).drop 6) (LE n)) Q E s := by
  have B₀ : Base w s.heap := B.ext F.keep
  refine wpAny_execs_cons (wpAny_Assign_Name (Call_Name rfl (nmG B₀ (r := .ref 238) (by kernel_rfl) (callWith_K0 (K := KF w.params) B₀.k (by kernel_rfl) (make_spec B₀ (by omega) hh fun s₁ x L dx M₁ k₁ hx hL hdx hxo hH hHL => ?_)) rfl (by kernel_rfl) rfl)))
  have hxP := F.nP hx.none
  have hLP := F.nP hL.none
  have hdxP := F.nP hdx.none
  have hL0 := F.n0 hL.none
  have F₁ := F.ext k₁
  refine stF F₁ (by kernel_rfl) fun s₂ M₂ F₂ S₂ => ?_
  obtain ⟨dx', hs, t, m, a1, a2⟩ := hH
  rw [hxo] at a1
  obtain rfl : dx = dx' := by
    injection a1 with a1
    unfold instObj at a1
    injection a1 with _ a1 _ _
    exact Option.some.inj a1
  have hxL : x ≠ L := fun e => by
    obtain ⟨n, ho⟩ := hHL
    rw [← e, hxo] at ho
    injection ho with ho
    unfold instObj at ho
    injection ho with _ ho _ _
    cases ho
  have hdL : dx ≠ L := fun e => by
    obtain ⟨n, ho⟩ := hHL
    rw [← e, a2] at ho
    injection ho with ho
    injection ho with ho _ _ _
    exact absurd ho (by decide)
  have H₂ : HeadP s₂.heap (fun a => ¬ Priv (LE n) a ∧ a ≠ L) x L := ⟨dx, hs, t, m, ⟨hxP, hxL⟩, ⟨hdxP, hdL⟩, S₂ _ _ hxP hxo, S₂ _ _ hdxP a2⟩
  have HL₂ : s₂.heap.PlainList L #[] := hHL.at fun o e => S₂ _ _ hLP e
  have F₃ := F₂.ext (Ext.push' s₂.heap { cls := .type "dict", data := .dict #[] })
  refine wpAny_execs_cons (wpAny_Assign_Name (Dict_one (Constant_str (s := { s₂ with heap := _ }) (wpAny_Constant_int ⟨_, _, _, _, rfl, rfl, fun _ _ e => e, fun s₄ M₄ k₄ D₄ => ?_⟩))))
  have hTP := F₂.nP (Heap.fresh (Nat.le_refl _))
  have hTL : s₂.heap.objs.size ≠ L := fun e => by obtain ⟨n, ho⟩ := HL₂; exact Nat.lt_irrefl _ (e ▸ Heap.lt_size ho)
  have hTs : (s₂.heap.objs.size == sysModules) = false := (B.ext F₂.keep).above (Above.size _)
  have F₄ : FF (LE n) h₀ _ s₄.heap := F₃.mut hTP (F₂.n0 (Heap.fresh (Nat.le_refl _))) k₄
  have k24 : Ext s₂.heap s₄.heap := fun b o e => k₄ b o (Nat.ne_of_lt (Heap.lt_size e)) (Ext.push' _ _ _ _ e)
  generalize s₂.heap.objs.size = T at D₄ hTP hTL hTs ⊢
  refine stF F₄ (by kernel_rfl) fun s₅ M₅ F₅ S₅ => ?_
  have k25 : ∀ b o, ¬ Priv (LE n) b → s₂.heap.get? b = some o → s₅.heap.get? b = some o := fun b o hp e => S₅ b o hp (k24 b o e)
  refine h s₅ x L T _ ⟨M₅.gens.trans (M₄.gens.trans (M₂.gens.trans M₁.gens)), M₅.os.trans (M₄.os.trans (M₂.os.trans M₁.os))⟩ F₅ (fun b o hp e => k25 b o hp (S₂ b o hp (k₁ _ _ e))) (fun y h1 h2 => ?_) ?_ (if_pos rfl) (H₂.step (fun a o p e => k25 a o p.1 e) fun _ _ p => p)
    ⟨[], HL₂.at fun o e => k25 _ _ hLP e, rfl, fun i T y e => by simp at e⟩ hLP hL0 (D₄.at fun o e => S₅ _ _ hTP e) hTP hTL hTs
  · show (if _ then _ else if _ then _ else _) = _
    rw [if_neg h2, if_neg h1]
  · show (if _ then _ else if _ then _ else _) = _
    rw [if_neg (by decide), if_pos rfl]
end
end Zd

namespace Zd
open PySem PySem.W PyProof.Rows PySem.Calls

theorem in6_sign (x : Int) : in6 (signCode x) = (x % 4 == 0) := by
  unfold in6 signCode
  rw [Bool.eq_iff_iff, decide_eq_true_eq, beq_iff_eq]
  dsimp only
  have hb : ∀ i, i < 8 → ¬ (65529 ≤ (beside.getD i 0).toNat ∧ (beside.getD i 0).toNat < 65534) := by decide
  have := hb (x / 4 % 8).toNat (by omega)
  split
  · omega
  · split
    · omega
    · split
      · split <;> omega
      · omega
theorem in7_sign (x : Int) : in7 (signCode x) = (x % 4 == 1) := by
  unfold in7 signCode
  rw [Bool.eq_iff_iff, decide_eq_true_eq, beq_iff_eq]
  dsimp only
  have hb : ∀ i, i < 8 → ¬ (12272 ≤ (beside.getD i 0).toNat ∧ (beside.getD i 0).toNat < 12284) := by decide
  have := hb (x / 4 % 8).toNat (by omega)
  split
  · omega
  · split
    · omega
    · split
      · split <;> omega
      · omega
theorem in9_sign (x : Int) : in9 (signCode x) = (x % 4 == 2) := by
  unfold in9 signCode
  rw [Bool.eq_iff_iff, decide_eq_true_eq, beq_iff_eq]
  dsimp only
  have hb : ∀ i, i < 8 → ¬ ((beside.getD i 0).toNat = 917505 ∨ (917536 ≤ (beside.getD i 0).toNat ∧ (beside.getD i 0).toNat < 917632)) := by decide
  have := hb (x / 4 % 8).toNat (by omega)
  split
  · omega
  · split
    · omega
    · split
      · split <;> omega
      · omega

def b8 : List Stmt := match ls 8 with | .For _ _ b _ _ => b | _ => []
def kinds (d : Int) : List Value := (List.range 3).map fun k : Nat => Value.bool (d % 4 == (k : Int))

section
variable {w : World} {A : Around} {E : Value → Shared → Prop} {s : Shared} {n : Nat} {h₀ : Heap} {v : Str → Option Value}
theorem call1 {f : Addr} {o : Obj} {fd : FuncData} {x : Str} {p pos : Pos} {e : Expr} {env : Env} {Q : Value → Shared → Prop} (B : Base w s.heap) (hv : gFind w x = some (.ref f)) (hfd : o.data = .func fd) (hf : (KF w.params).lookup f = some o)
    (h : wpAny (model P0 w) A (eval e env) (fun a s₁ => Base w s₁.heap ∧ wpAny (model P0 w) A (call (.ref f) [a] []) Q E s₁) E s)
    (hk : env.scope.kind = .function) (hx : env.kindOf x = some .globalImplicit) (hg : env.globals = mainGlobals)
    (ht : backTo pos (starEach [e] env) = [(false, eval e env)] := by rfl) (hd : (x == ("__debug__" : Str)) = false := by decide) : wpAny (model P0 w) A (eval (.Call (.Name x p) [e] [] pos) env) Q E s :=
  callD1 (fun Q' q => nmG B hv q hk hx hg hd) (wpAny_mono h (fun a s₁ h₁ => ⟨o, fd, ⟨h₁.1.k f o hf, hfd⟩, h₁.2⟩) fun _ _ e => e) ht

theorem C1 {Dr : Addr} {ds : List Int} {i : Nat} {ti : Tok} (B : Base w h₀) (hA : A.depth < 700) (F : FF (LE n) h₀ v s.heap) (hdr : v (Str.ofString "drawn") = some (.ref Dr)) (hi : v (Str.ofString "i") = some (.int i ti)) (D : IntsL s.heap Dr ds) (hl : ds.length = 9) (hi7 : i < 7)
    {Q : Flow → Shared → Prop}
    (h : ∀ s' To v', Sm s s' → FF (LE n) h₀ v' s'.heap → Stay (LE n) s.heap s'.heap → (∀ y, y ≠ Str.ofString "sign" → y ≠ Str.ofString "told" → v' y = v y) → v' (Str.ofString "told") = some (.ref To) → ¬ Priv (LE n) To → s.heap.get? To = none → s'.heap.PlainList To (kinds (ds.getD i 0)).toArray →
      wpAny (model P0 w) A (execs (b8.drop 2) (LE n)) Q E s') :
    wpAny (model P0 w) A (execs b8 (LE n)) Q E s := by
  have B₀ : Base w s.heap := B.ext F.keep
  obtain ⟨vs, dl, di⟩ := D
  obtain ⟨td, htd⟩ := intsAre_at di (i := i) (n := ds.getD i 0) (by rw [List.getD_eq_getElem?_getD, List.getElem?_eq_getElem (by omega)]; rfl)
  refine wpAny_execs_cons (wpAny_Assign_Name (call1 (f := 249) B₀ (by kernel_rfl) rfl rfl (SubX (nmF F hdr (nmF F hi (onList (x := .int (ds.getD i 0) td) dl.isList (by omega) (by simpa using htd) ⟨B₀, ?_⟩) (by kernel_rfl)) (by kernel_rfl))) rfl (by kernel_rfl) rfl))
  refine sign_spec B₀ (by omega) fun s₁ t1 M₁ k₁ => ?_
  have F₁ := F.ext k₁
  refine stF F₁ (by kernel_rfl) fun s₂ M₂ F₂ S₂ => ?_
  generalize ds.getD i 0 = d at F₂ h ⊢
  have q1 : (fun y => if y = Str.ofString "sign" then some (Value.str ⟨#[signCode d]⟩ t1) else v y) (Str.ofString "sign") = some (.str ⟨#[signCode d]⟩ t1) := if_pos rfl
  refine wpAny_execs_cons (wpAny_Assign_Name (wpAny_List_spliced ?_))
  have B₂ : Base w s₂.heap := B.ext F₂.keep
  refine spliced_cons (call1 (f := 50) B₂ (by kernel_rfl) rfl rfl (nmF F₂ q1 ⟨B₂, c6_spec B₂ (by omega) fun s₃ M₃ k₃ => ?_⟩ (by kernel_rfl)) rfl (by kernel_rfl) rfl)
  have F₃ := F₂.ext k₃
  have B₃ := B.ext F₃.keep
  refine spliced_cons (call1 (f := 62) B₃ (by kernel_rfl) rfl rfl (nmF F₃ q1 ⟨B₃, c7_spec B₃ (by omega) fun s₄ M₄ k₄ => ?_⟩ (by kernel_rfl)) rfl (by kernel_rfl) rfl)
  have F₄ := F₃.ext k₄
  have B₄ := B.ext F₄.keep
  refine spliced_cons (call1 (f := 80) B₄ (by kernel_rfl) rfl rfl (nmF F₄ q1 ⟨B₄, c9_spec B₄ (by omega) fun s₅ M₅ k₅ => spliced_nil ⟨by simp [sizeLine_eq], ?_⟩⟩ (by kernel_rfl)) rfl (by kernel_rfl) rfl)
  have F₅ := F₄.ext k₅
  rw [in6_sign, in7_sign, in9_sign]
  have hT : (s₅.heap.push { cls := .type "list", data := .seq ([Value.bool (d % 4 == 0), .bool (d % 4 == 1), .bool (d % 4 == 2)]).toArray }).PlainList s₅.heap.objs.size (kinds d).toArray := ⟨_, Heap.get?_push_size _ rfl⟩
  have hTP : ¬ Priv (LE n) s₅.heap.objs.size := F₅.size_notPriv (Nat.le_refl _)
  have k₆ := Ext.push' s₅.heap { cls := .type "list", data := .seq ([Value.bool (d % 4 == 0), .bool (d % 4 == 1), .bool (d % 4 == 2)]).toArray }
  have F₆ := F₅.ext k₆
  have hT0 : s.heap.get? s₅.heap.objs.size = none := by
    cases e : s.heap.get? s₅.heap.objs.size with
    | none => rfl
    | some o => exact absurd (Heap.lt_size (k₅ _ _ (k₄ _ _ (k₃ _ _ (S₂ _ o hTP (k₁ _ _ e)))))) (Nat.lt_irrefl _)
  generalize s₅.heap.objs.size = To at hT hTP hT0 ⊢
  refine stF (s := { s₅ with heap := _ }) F₆ (by kernel_rfl) fun s₇ M₇ F₇ S₇ => ?_
  refine h s₇ To _ ⟨M₇.gens.trans (M₅.gens.trans (M₄.gens.trans (M₃.gens.trans (M₂.gens.trans M₁.gens)))), M₇.os.trans (M₅.os.trans (M₄.os.trans (M₃.os.trans (M₂.os.trans M₁.os))))⟩ F₇
    (fun b o hp e => S₇ b o hp (k₆ _ _ (k₅ _ _ (k₄ _ _ (k₃ _ _ (S₂ b o hp (k₁ _ _ e))))))) (fun y h1 h2 => ?_) (if_pos rfl) hTP hT0 (hT.at fun o e => S₇ _ _ hTP e)
  show (if _ then _ else if _ then _ else _) = _
  rw [if_neg h2, if_neg h1]

theorem kinds_at {d : Int} {j : Nat} {val : Value} (h : (kinds d).toArray[j]? = some val) : j < 3 ∧ val = .bool (d % 4 == (j : Int)) := by
  have h : (kinds d)[j]? = some val := by simpa using h
  unfold kinds at h
  rw [List.getElem?_map] at h
  obtain ⟨k, hk, rfl⟩ := Option.map_eq_some_iff.mp h
  have hlt : j < (List.range 3).length := (List.getElem?_eq_some_iff.mp hk).1
  rw [List.length_range] at hlt
  rw [List.getElem?_range hlt] at hk
  cases hk
  exact ⟨hlt, rfl⟩

theorem C2 {To : Addr} {d : Int} (B : Base w h₀) (hh : A.handled = none) (F : FF (LE n) h₀ v s.heap) (ht : v (Str.ofString "told") = some (.ref To)) (hTP : ¬ Priv (LE n) To) (hT : s.heap.PlainList To (kinds d).toArray)
    {Q : Flow → Shared → Prop}
    (h : ∀ s' v', Sm s s' → FF (LE n) h₀ v' s'.heap → Stay (LE n) s.heap s'.heap → (∀ y, y ≠ Str.ofString "verdict" → v' y = v y) → wpAny (model P0 w) A (execs (b8.drop 3) (LE n)) Q E s') :
    wpAny (model P0 w) A (execs (b8.drop 2) (LE n)) Q E s := by
  refine wpAny_execs_cons ?_
  refine For_rule (n := (kinds d).toArray.size) (P := fun i v => (kinds d).toArray[i]? = some v) (fun _ => False) (fun Z i v' h' => (∀ b, Z b → s.heap.get? b = none) ∧ (∀ y, y ≠ Str.ofString "verdict" → v' y = v y) ∧ Stay (LE n) s.heap h') F (fun _ q => q.elim)
    (nmF F ht (src_list hh ⟨rfl, rfl⟩ (fun _ _ e => e) hT.isList hTP fun q => q) (by kernel_rfl)) (fun Z h hZ k => ⟨hZ, fun _ _ => rfl, Stay.ext k⟩) (by kernel_rfl) (fun Z i v h h₁ _ ⟨a0, a, b⟩ k => ⟨a0, a, fun c o hp e => k c o hp (fun q => by rw [a0 c q] at e; cases e) (b c o hp e)⟩) ?_ ?_
  · rintro Z i val s' v' hi hval M hZ1 hZ2 F' ⟨a0, a1, a2⟩ E'
    obtain ⟨_, rfl⟩ := kinds_at hval
    have fin : ∀ tk, Sm s { s' with toks := tk } ∧ Pres (LE n) (fun _ => False) s'.heap s'.heap ∧ ∃ v₁, FF (LE n) h₀ v₁ s'.heap ∧ (∀ b, Z b → s.heap.get? b = none) ∧ (∀ y, y ≠ Str.ofString "verdict" → v₁ y = v y) ∧ Stay (LE n) s.heap s'.heap :=
      fun tk => ⟨⟨M.gens, M.os⟩, fun _ _ _ _ e => e, _, F', a0, fun y hy => (if_neg hy).trans (a1 y hy), a2⟩
    refine wpAny_execs_cons (wpAny_If (isTrue_and (wpAny_isTrue_Compare1 (nmF F' (if_pos rfl) (wpAny_Constant_bool ?_) (by kernel_rfl)))))
    cases hb : d % 4 == (i : Int) with
    | true =>
      refine wpAny_isNot_self rfl (wpAny_truthy_bool ?_)
      simp only [Bool.false_eq_true, if_false]
      exact wpAny_execs_nil (wpAny_execs_nil (fin _))
    | false =>
      refine wpAny_isNot_other rfl (by intro e; cases e) (wpAny_truthy_bool ?_)
      simp only [if_true]
      rw [hb] at F'
      refine isTrue_and (wpAny_isTrue_Compare1 (nmF F' (if_pos rfl) (wpAny_Constant_bool (wpAny_isNot_self rfl (wpAny_truthy_bool ?_))) (by kernel_rfl)))
      simp only [Bool.false_eq_true, if_false]
      exact wpAny_execs_nil (wpAny_execs_nil (hb ▸ fin _))
  · rintro Z s' v' M F' ⟨a0, a1, a2⟩
    exact h s' v' M F' a2 a1

theorem C3 {Dr To : Addr} {ds : List Int} {i : Nat} {ti : Tok} (B : Base w h₀) (hh : A.handled = none) (hu : A.units < 5000) (F : FF (LE n) h₀ v s.heap) (hdr : v (Str.ofString "drawn") = some (.ref Dr)) (hi : v (Str.ofString "i") = some (.int i ti)) (D : IntsL s.heap Dr ds) (hl : ds.length = 9) (hi7 : i < 7)
    (ht : v (Str.ofString "told") = some (.ref To)) (hT : s.heap.PlainList To (kinds (ds.getD i 0)).toArray)
    {Q : Flow → Shared → Prop}
    (h : ∀ s', Sm s s' → FF (LE n) h₀ v s'.heap → Ext s.heap s'.heap → wpAny (model P0 w) A (execs (b8.drop 4) (LE n)) Q E s') :
    wpAny (model P0 w) A (execs (b8.drop 3) (LE n)) Q E s := by
  obtain ⟨vs, dl, di⟩ := D
  obtain ⟨td, htd⟩ := intsAre_at di (i := i) (n := ds.getD i 0) (by rw [List.getD_eq_getElem?_getD, List.getElem?_eq_getElem (by omega)]; rfl)
  generalize ds.getD i 0 = d at htd hT
  have B₀ : Base w s.heap := B.ext F.keep
  refine wpAny_execs_cons (wpAny_If (wpAny_isTrue_Compare1 (nmF F ht ?_ (by kernel_rfl))))
  refine CompL (ns := [Str.ofString "i", Str.ofString "drawn"]) (n := 3) (Up := fun i v' => ∃ val, (∃ t, val = .int i t) ∧ v' (Str.ofString "kind") = some val)
    (fun bad k l h => l = (kinds d).take k) F (by rw [sizeLine_eq]; decide) ?_ (fun bad h _ _ => rfl) (fun bad i l h h₁ a _ => a) ?_ ?_
  · refine callT1 (T := "range") (fun Q' q => nmB B₀ (by kernel_rfl) (by decide +kernel) q rfl (by kernel_rfl) rfl rfl) (wpAny_Constant_int ?_)
    refine wpAny_mono (src_range (n := 3) (s := s) (s₁ := { s with toks := _ }) (X := fun _ => False) (env := LE n) hh ⟨rfl, rfl⟩ (fun _ _ e => e)) (fun xv s₄ q => wpAny_mono q (fun it s₅ q => ⟨q.1, q.2.1, SrcF.name F (by decide +kernel) q.2.2⟩) fun _ _ e => e) fun _ _ e => e
  · rintro bad C k l s₃ v' hk M₃ k₃ F₃ ⟨val, ⟨tj, rfl⟩, e1⟩ hv' hbad rfl E'
    refine Tests.nil ?_
    simp only [if_true]
    refine wpAny_Compare1 (wpAny_BinOp (SubX (nmF F₃ ((hv' _ (by decide +kernel)).trans hdr) (nmF F₃ ((hv' _ (by decide +kernel)).trans hi) (onList (x := .int d td) (dl.at fun o e => k₃ _ _ e).isList (by omega) (by simpa using htd) (wpAny_Constant_int (modI (by decide) fun t m => nmF (s := { s₃ with toks := _ }) F₃ e1 (eq_int ⟨⟨rfl, rfl⟩, fun _ _ e => e, ?_⟩) (by kernel_rfl)))) (by kernel_rfl)) (by kernel_rfl))))
    unfold kinds
    rw [List.take_add_one, List.getElem?_map, List.getElem?_range hk]
    rfl
  · rintro bad D l s₃ M₃ k₃ hD F₃ hl3 rfl
    have e3 : (kinds d).take 3 = kinds d := List.take_of_length_le (by simp [kinds])
    rw [e3] at hl3
    refine ne_lists (fun _ => true) (hT.at fun o e => k₃ _ _ e) hl3 (by unfold cLine; omega) (fun _ j h1 h2 => SeqAt.EqAt.same _) (wpAny_truthy_bool ?_)
    rw [if_neg (by simp)]
    exact wpAny_execs_nil (h s₃ M₃ F₃ k₃)
end
end Zd

namespace Zd
open PySem PySem.W PyProof.Rows PySem.Calls

def nameS (c : Nat) : Str := Str.ofString "C." ++ one1 c
def numS (i : Nat) : Str := Str.ofString (toString (i : Int))
theorem nameS_ok : ∀ k : Nat, k < 3 → failsOn codesN (nameS (abc k)).cps = true ∧ (nameS (abc k)).cps.size < 1000 := by decide +kernel
theorem numS_ok : ∀ i : Nat, i < 7 → failsOn codesV (numS i).cps = true ∧ (numS i).cps.size < 1000 := by decide +kernel
def shortI (xs : DD) : DD := xs.filter fun kn => decide (kn.1.length < 5)
def tallyStep (xs : DD) (c : Nat) : DD := addC xs (grownI (shortI xs) (one1 c))
theorem shortI_take {xs : DD} {i : Nat} {kn : Str × Int} (h : xs[i]? = some kn) : shortI (xs.take (i + 1)) = shortI (xs.take i) ++ (if kn.1.length < 5 then [kn] else []) := by
  unfold shortI
  rw [List.take_add_one, h]
  simp only [Option.toList, List.filter_append, List.filter_cons, List.filter_nil, decide_eq_true_eq]
theorem grownI_snoc (xs : DD) (kn : Str × Int) (c : Str) : grownI (xs ++ [kn]) c = storedI (grownI xs c) (kn.1 ++ c) kn.2 := by
  unfold grownI; rw [List.foldl_append]; rfl

section
variable {w : World} {A : Around} {E : Value → Shared → Prop} {s : Shared} {n : Nat} {h₀ : Heap} {v : Str → Option Value}
theorem C4 {x L T To : Addr} {d : Int} {i : Nat} {ti : Tok} {ps : List (Str × Str)} {tl : DD} (B : Base w h₀) (hA : A.depth < 700) (hh : A.handled = none) (F : FF (LE n) h₀ v s.heap) (hi : v (Str.ofString "i") = some (.int i ti)) (hi7 : i < 7)
    (ht : v (Str.ofString "told") = some (.ref To)) (hTP : ¬ Priv (LE n) To) (hT : s.heap.PlainList To (kinds d).toArray)
    (hx : v (Str.ofString "head") = some (.ref x)) (H : HeadP s.heap (fun a => ¬ Priv (LE n) a ∧ a ≠ L) x L) {PP : Addr → Prop} (hPI : ∀ a, PP a → ¬ Priv (LE n) a ∧ a ≠ L) (hPP0 : ∀ a, s.heap.get? a = none → PP a) (HL : HdrL s.heap PP L ps) (hps : ps.length ≤ 100) (hLP : ¬ Priv (LE n) L) (hL0 : h₀.get? L = none) (hToL : To ≠ L)
    (hta : v (Str.ofString "tally") = some (.ref T)) (DT : DictSI w s.heap T tl) (hTaP : ¬ Priv (LE n) T) (hTL : T ≠ L) (hTs : (T == sysModules) = false) (htl : tl.length ≤ 1000) (htk : ∀ kn ∈ tl, kn.1.length ≤ 1000)
    {Q : Flow → Shared → Prop}
    (h : ∀ s' v' T', Sm s s' → FF (LE n) h₀ v' s'.heap → (∀ b o, ¬ Priv (LE n) b → b ≠ L → s.heap.get? b = some o → s'.heap.get? b = some o) → (∀ y, y ≠ Str.ofString "kind" → y ≠ Str.ofString "letter" → y ≠ Str.ofString "tally" → v' y = v y) →
      HdrL s'.heap PP L (if d % 4 < 3 then ps ++ [(nameS (abc (d % 4)), numS i)] else ps) →
      v' (Str.ofString "tally") = some (.ref T') → DictSI w s'.heap T' (if d % 4 < 3 then tallyStep tl (abc (d % 4)) else tl) → ¬ Priv (LE n) T' → T' ≠ L → (T' == sysModules) = false → (T' = T ∨ s.heap.get? T' = none) →
      wpAny (model P0 w) A (execs (b8.drop 5) (LE n)) Q E s') :
    wpAny (model P0 w) A (execs (b8.drop 4) (LE n)) Q E s := by
  have B₀ : Base w s.heap := B.ext F.keep
  refine wpAny_execs_cons ?_
  refine For_rule (n := 3) (P := fun i v => ∃ t, v = .int i t) (fun a => a = L) (fun Z k v' h' => (∀ b, Z b → s.heap.get? b = none) ∧ (∀ y, y ≠ Str.ofString "kind" → y ≠ Str.ofString "letter" → y ≠ Str.ofString "tally" → v' y = v y) ∧
      (∀ b o, ¬ Priv (LE n) b → b ≠ L → s.heap.get? b = some o → h'.get? b = some o) ∧ HdrL h' (fun a => PP a ∧ ¬ Z a) L (if d % 4 < (k : Int) then ps ++ [(nameS (abc (d % 4)), numS i)] else ps) ∧
      ∃ T', v' (Str.ofString "tally") = some (.ref T') ∧ (T' = T ∨ s.heap.get? T' = none) ∧ ¬ Z T' ∧ ¬ Priv (LE n) T' ∧ T' ≠ L ∧ (T' == sysModules) = false ∧ DictSI w h' T' (if d % 4 < (k : Int) then tallyStep tl (abc (d % 4)) else tl)) F
    (fun b q => by rw [q]; exact HL.lt)
    (callT1 (T := "range") (fun Q' q => nmB B₀ (by kernel_rfl) (by decide +kernel) q rfl (by kernel_rfl) rfl rfl) (wpAny_Constant_int (src_range (n := 3) (s := s) (s₁ := { s with toks := _ }) hh ⟨rfl, rfl⟩ (fun _ _ e => e))))
    ?_ (by kernel_rfl) ?_ ?_ ?_
  · rintro Z h' hZ k
    have nz : ∀ a, (∃ o, s.heap.get? a = some o) → ¬ Z a := fun a ⟨o, ho⟩ q => by rw [hZ a q] at ho; cases ho
    have h4 : ¬ d % 4 < ((0 : Nat) : Int) := by omega
    rw [if_neg h4, if_neg h4]
    exact ⟨hZ, fun _ _ _ _ => rfl, fun b o _ _ e => k b o e, HL.step (fun o e => k _ _ e) (fun a o _ e => k _ _ e) (fun a ha p => ⟨p, nz a ha⟩), T, hta, .inl rfl, nz T DT.lt, hTaP, hTL, hTs, DT.ext k⟩
  · rintro Z k v' h' h₁ hk ⟨a1, a2, a3, a4, T', a5, a5', a6, a7, a8, a9, a10⟩ k'
    refine ⟨a1, a2, fun b o hp hb e => k' b o hp (fun q => by rw [a1 b q] at e; cases e) (a3 b o hp hb e), a4.step (fun o e => k' _ _ hLP ?_ e) (fun a o p e => k' _ _ (hPI _ p.1).1 p.2 e) (fun _ _ p => p), T', a5, a5', a6, a7, a8, a9, a10.at fun o e => k' _ _ a7 a6 e⟩
    intro q
    obtain ⟨o, ho⟩ := HL.lt
    rw [a1 L q] at ho; cases ho
  · rintro Z k val s₁ v' hk ⟨tk, rfl⟩ M₁ hZ1 hZ2 F₁ ⟨a1, a2, a3, a4, T', a5, a5', a6, a7, a8, a9, a10⟩ E'
    have g1 : (fun y => if y = Str.ofString "kind" then some (Value.int k tk) else v' y) (Str.ofString "kind") = some (.int k tk) := if_pos rfl
    have g2 : ∀ y, y ≠ Str.ofString "kind" → y ≠ Str.ofString "letter" → y ≠ Str.ofString "tally" → (fun y => if y = Str.ofString "kind" then some (Value.int k tk) else v' y) y = v y := fun y h1 h2 h3 => (if_neg h1).trans (a2 y h1 h2 h3)
    have g3 : (fun y => if y = Str.ofString "kind" then some (Value.int k tk) else v' y) (Str.ofString "tally") = some (.ref T') := (if_neg (by decide)).trans a5
    generalize (fun y => if y = Str.ofString "kind" then some (Value.int k tk) else v' y) = v1 at F₁ g1 g2 g3
    have hT1 : s₁.heap.PlainList To (kinds d).toArray := hT.at fun o e => a3 _ _ hTP hToL e
    refine wpAny_execs_cons (wpAny_If (isTrue_plain (SubX (nmF F₁ ((g2 _ (by decide) (by decide) (by decide)).trans ht) (nmF F₁ g1 (onList (x := .bool (d % 4 == (k : Int))) hT1.isList (by omega) (by simp [kinds, hk]) (wpAny_truthy_bool ?_)) (by kernel_rfl)) (by kernel_rfl)))))
    cases hb : d % 4 == (k : Int) with
    | false =>
      have hb : d % 4 ≠ (k : Int) := by simpa using hb
      simp only [Bool.false_eq_true, if_false]
      refine wpAny_execs_nil (wpAny_execs_nil ⟨M₁, fun _ _ _ _ e => e, v1, F₁, a1, g2, a3, ?_, T', g3, a5', a6, a7, a8, a9, ?_⟩)
      · have e : (d % 4 < ((k + 1 : Nat) : Int)) = (d % 4 < (k : Int)) := propext ⟨fun q => by omega, fun q => by omega⟩
        simp only [e]; exact a4
      · have e : (d % 4 < ((k + 1 : Nat) : Int)) = (d % 4 < (k : Int)) := propext ⟨fun q => by omega, fun q => by omega⟩
        simp only [e]; exact a10
    | true =>
      have hb : d % 4 = (k : Int) := by simpa using hb
      simp only [if_true]
      have n1 : ¬ d % 4 < (k : Int) := by omega
      have n2 : d % 4 < ((k + 1 : Nat) : Int) := by omega
      simp only [if_neg n1] at a4 a10
      simp only [if_pos n2]
      rw [hb]
      -- letter = '679'[kind]
      refine wpAny_execs_cons (wpAny_Assign_Name (abcE s₁.toks fun tk' => nmF (s := { s₁ with toks := tk' }) F₁ g1 ⟨_, _, rfl, by omega, by omega, fun t2 m2 => ?_⟩ (by kernel_rfl)))
      refine stF (s := { s₁ with toks := m2 }) F₁ (by kernel_rfl) fun s₂ M₂ F₂ S₂ => ?_
      have f1 : (fun y => if y = Str.ofString "letter" then some (Value.str (one1 (abc k)) t2) else v1 y) (Str.ofString "letter") = some (.str (one1 (abc k)) t2) := if_pos rfl
      have f2 : ∀ y, y ≠ Str.ofString "letter" → (fun y => if y = Str.ofString "letter" then some (Value.str (one1 (abc k)) t2) else v1 y) y = v1 y := fun y hy => if_neg hy
      generalize (fun y => if y = Str.ofString "letter" then some (Value.str (one1 (abc k)) t2) else v1 y) = v2 at F₂ f1 f2
      have B₂ : Base w s₂.heap := B.ext F₂.keep
      have H₂ : HeadP s₂.heap (fun a => ¬ Priv (LE n) a ∧ a ≠ L) x L := H.step (fun a o p e => S₂ _ _ p.1 (a3 _ _ p.1 p.2 e)) fun _ _ p => p
      have HL₂ := a4.step (h' := s₂.heap) (P' := fun a => PP a ∧ ¬ Z a) (fun o e => S₂ _ _ hLP e) (fun a o p e => S₂ _ _ (hPI _ p.1).1 e) (fun _ _ p => p)
      have D₂ : DictSI w s₂.heap T' tl := a10.at fun o e => S₂ _ _ a7 e
      obtain ⟨n3, n4⟩ := nameS_ok k hk
      obtain ⟨n5, n6⟩ := numS_ok i hi7
      refine wpAny_execs_cons (wpAny_Expr_any (Call_meth (x := x) (f := 235) (ob := o235 w.params) (fd := fd235) (nmF F₂ ((f2 _ (by decide)).trans ((g2 _ (by decide) (by decide) (by decide)).trans hx)) ⟨rfl, fun pl Q' q => head_method B₂ H₂.head (by kernel_rfl) (by kernel_rfl) (by decide +kernel) q, ?_⟩ (by kernel_rfl)) rfl rfl rfl))
      refine evalArgs_plain (spliced_cons (wpAny_BinOp (Constant_str (nmF (s := { s₂ with toks := _ }) F₂ f1 (add_str (fun t3 m3 => spliced_cons ?_) (by rw [sizeLine_eq]; show 2 + 1 ≤ _; decide)) (by kernel_rfl)))))
      refine callT1 (T := "str") (fun Q' q => nmB (s := { s₂ with toks := m3 }) B₂ (by kernel_rfl) (by decide +kernel) q rfl (by kernel_rfl) rfl rfl) (nmF (s := { s₂ with toks := m3 }) F₂ ((f2 _ (by decide)).trans ((g2 _ (by decide) (by decide) (by decide)).trans hi)) (str_of_int_fit (N := 10) (by split <;> omega) (by decide) fun _ => spliced_nil ⟨⟨B₂.k 235 _ rfl, rfl⟩, ?_⟩) (by kernel_rfl))
      refine add_spec (s := { s₂ with toks := _ }) (name := nameS (abc k)) (val := numS i) (ps := ps) (PP := fun a => PP a ∧ ¬ Z a) B₂ (by omega) hh ?_ H₂.head HL₂ (by omega) n3 n4 n5 n6 fun s₃ M₃ k₃ HL₃ => ?_
      · intro r hr
        have hrP := F₂.nP hr.none
        have hrL : r ≠ L := fun e => by
          obtain ⟨o, ho⟩ := HL₂.lt
          rw [← e, hr.none] at ho; cases ho
        refine ⟨hPP0 r ?_, fun q => ?_⟩
        · cases e : s.heap.get? r with
          | none => rfl
          | some o => have := S₂ _ _ hrP (a3 _ _ hrP hrL e); rw [hr.none] at this; cases this
        · obtain ⟨o, ho⟩ := hZ1 r q
          have := S₂ _ _ hrP ho
          rw [hr.none] at this; cases this
      have F₃ : FF (LE n) h₀ v2 s₃.heap := F₂.mut hLP hL0 k₃
      have B₃ : Base w s₃.heap := B.ext F₃.keep
      have D₃ : DictSI w s₃.heap T' tl := D₂.at fun o e => k₃ _ o a8 e
      obtain ⟨kvs, Dk, Ik⟩ := id D₃
      obtain ⟨oT, _, _, hoT, _⟩ := id Dk
      refine wpAny_execs_cons (wpAny_Assign_Name (callD2 (f := 87) (fun Q' q => nmG B₃ (r := .ref 87) (by kernel_rfl) q rfl (by kernel_rfl) rfl) (nmF F₃ ((f2 _ (by decide)).trans g3) ?_ (by kernel_rfl))))
      refine CompD (ns := [Str.ofString "letter"]) (n := kvs.length) (fun bad i l h => IntsOf l (grownI (shortI (tl.take i)) (one1 (abc k)))) F₃ (by rw [Ik.length, sizeLine_eq]; omega)
        (srcF_items hh a9 F₃ Dk a7 (by decide +kernel) (by decide +kernel) (by decide) (fun Q' q => nmF F₃ ((f2 _ (by decide)).trans g3) q (by kernel_rfl)))
        (fun _ _ _ _ => .nil) (fun _ _ _ _ _ a _ => a) ?_ ?_
      · rintro bad C j l s' v' hj M' k' F' ⟨kk, kt, val, hkv, e1, e2⟩ hv' _ hjj E''
        obtain ⟨m, tm, hxm, rfl⟩ := Ik.get hkv
        have hlk : kk.length ≤ 1000 := htk _ (List.mem_of_getElem? hxm)
        have B' : Base w s'.heap := B₃.ext k'
        refine Tests.one (wpAny_isTrue_Compare1 (callB1 (id := "len") (fun Q' q => nmB B' (by kernel_rfl) (by decide +kernel) q rfl (by kernel_rfl) rfl rfl) (nmF F' e1 (len_str (by omega) (wpAny_Constant_int (lt_int (wpAny_truthy_bool ?_)))) (by kernel_rfl))))
        rw [shortI_take hxm]
        have ec : decide ((kk.length : Int) < 5) = decide (kk.length < 5) := by
          rw [decide_eq_decide]; omega
        rw [ec]
        cases hc : decide (kk.length < 5) with
        | false =>
          have hc : ¬ kk.length < 5 := by simpa using hc
          simp only [Bool.false_eq_true, if_false]
          rw [if_neg hc, List.append_nil]
          exact ⟨⟨rfl, rfl⟩, fun _ _ e => e, hjj⟩
        | true =>
          have hc : kk.length < 5 := by simpa using hc
          simp only [if_true]
          rw [if_pos hc, grownI_snoc]
          refine wpAny_BinOp (nmF (s := { s' with toks := _ }) F' e1 (nmF (s := { s' with toks := _ }) F' ((hv' _ (by decide +kernel)).trans f1) (add_str (fun t' tk => ?_) ?_) (by kernel_rfl)) (by kernel_rfl))
          · exact ⟨_, _, rfl, nmF (s := { s' with toks := tk }) F' e2 ⟨⟨rfl, rfl⟩, fun _ _ e => e, hjj.stored (kk ++ one1 (abc k)) m tm⟩ (by kernel_rfl)⟩
          · rw [sizeLine_eq]; show kk.length + 1 ≤ _; omega
      · intro bad D l s₄ M₄ k₄ hD F₄ hl hj
        rw [Ik.length, List.take_length] at hj
        have B₄ : Base w s₄.heap := B.ext F₄.keep
        obtain ⟨oa, hoa, hda, hca⟩ := cd87 B₄
        have hlen : (grownI (shortI tl) (one1 (abc k))).length ≤ 1000 := Nat.le_trans (grownI_len _ _) (Nat.le_trans (List.length_filter_le ..) htl)
        refine ⟨oa, fd87, ⟨hoa, hda⟩, add_callers_spec B₄ (by omega) hh a9 (B₃.above hD) (D₃.ext k₄) ⟨l, hl, hj⟩ (by omega) fun s₅ r M₅ k₅ r1 r2 r3 => ?_⟩
        have F₅ := F₄.ext k₅
        have hrP := F₄.nP r1
        have hL4 : ∃ o, s₄.heap.get? L = some o := by obtain ⟨o, ho⟩ := HL₃.lt; exact ⟨o, k₄ _ _ ho⟩
        have hrL : r ≠ L := fun e => by obtain ⟨o, ho⟩ := hL4; rw [← e, r1] at ho; cases ho
        have hrZ : ¬ Z r := fun q => by
          obtain ⟨o, ho⟩ := hZ1 r q
          have := k₄ _ _ (k₃ _ _ hrL (S₂ _ _ hrP ho))
          rw [r1] at this; cases this
        have hr0 : s.heap.get? r = none := by
          cases e : s.heap.get? r with
          | none => rfl
          | some o => have := k₄ _ _ (k₃ _ _ hrL (S₂ _ _ hrP (a3 _ _ hrP hrL e))); rw [r1] at this; cases this
        refine stF F₅ (by kernel_rfl) fun s₆ M₆ F₆ S₆ => wpAny_execs_nil (wpAny_execs_nil ?_)
        have k16 : ∀ b o, ¬ Priv (LE n) b → b ≠ L → s₁.heap.get? b = some o → s₆.heap.get? b = some o := fun b o hp hb e => S₆ b o hp (k₅ _ _ (k₄ _ _ (k₃ b o hb (S₂ b o hp e))))
        refine ⟨⟨M₆.gens.trans (M₅.gens.trans (M₄.gens.trans (M₃.gens.trans (M₂.gens.trans M₁.gens)))), M₆.os.trans (M₅.os.trans (M₄.os.trans (M₃.os.trans (M₂.os.trans M₁.os))))⟩, fun b o hp hb e => k16 b o hp hb e, _, F₆, a1, fun y h1 h2 h3 => ?_,
          fun b o hp hb e => k16 b o hp hb (a3 b o hp hb e), HL₃.step (fun o e => S₆ _ _ hLP (k₅ _ _ (k₄ _ _ e))) (fun a o p e => S₆ _ _ (hPI _ p.1).1 (k₅ _ _ (k₄ _ _ e))) (fun _ _ p => p), r, if_pos rfl, .inr hr0, hrZ, hrP, hrL, r2, r3.at fun o e => S₆ _ _ hrP e⟩
        exact (if_neg h3).trans ((f2 y h2).trans (g2 y h1 h2 h3))
  · rintro Z s₁ v' M₁ F₁ ⟨a1, a2, a3, a4, T', a5, a5', a6, a7, a8, a9, a10⟩
    have e : (d % 4 < ((3 : Nat) : Int)) = (d % 4 < 3) := rfl
    simp only [e] at a4 a10
    exact h s₁ v' T' M₁ F₁ a3 a2 (a4.step (fun _ e => e) (fun _ _ _ e => e) fun _ _ p => p.1) a5 a10 a7 a8 a9 a5'
end
end Zd

namespace Zd
open PySem PySem.W PyProof.Rows PySem.Calls

def tallyTo (ds : List Int) : Nat → DD
  | 0 => [(e0, 1)]
  | i + 1 => if ds.getD i 0 % 4 < 3 then tallyStep (tallyTo ds i) (abc (ds.getD i 0 % 4)) else tallyTo ds i
def hdrTo (ds : List Int) : Nat → List (Str × Str)
  | 0 => []
  | i + 1 => if ds.getD i 0 % 4 < 3 then hdrTo ds i ++ [(nameS (abc (ds.getD i 0 % 4)), numS i)] else hdrTo ds i

def keysB (b : Nat) (xs : DD) : Prop := ∀ kn ∈ xs, kn.1.length ≤ b
theorem keysB.mono {b c : Nat} {xs : DD} (h : keysB b xs) (hbc : b ≤ c) : keysB c xs := fun kn hk => Nat.le_trans (h kn hk) hbc
theorem keysB.stored {b : Nat} {xs : DD} {k : Str} {m : Int} (h : keysB b xs) (hk : k.length ≤ b) : keysB b (storedI xs k m) := by
  unfold storedI
  split
  · intro kn hkn
    obtain ⟨x, hx, rfl⟩ := List.mem_map.mp hkn
    by_cases e : x.1 = k
    · rw [if_pos e]; exact h x hx
    · rw [if_neg e]; exact h x hx
  · intro kn hkn
    rcases List.mem_append.mp hkn with hkn | hkn
    · exact h kn hkn
    · rw [List.mem_singleton] at hkn; subst hkn; exact hk
theorem keysB.step {b : Nat} {xs : DD} {kn : Str × Int} (h : keysB b xs) (hk : kn.1.length ≤ b) : keysB b (addStep xs kn) := by
  unfold addStep
  split <;> exact h.stored hk
theorem keysB.add {b : Nat} : ∀ {ys xs : DD}, keysB b xs → keysB b ys → keysB b (addC xs ys)
  | [], xs, h, _ => h
  | y :: r, xs, h, h' => keysB.add (ys := r) (h.step (h' y (List.mem_cons_self ..))) fun kn hk => h' kn (List.mem_cons_of_mem _ hk)
theorem keysB.grown {b : Nat} {xs : DD} {c : Str} (h : keysB b xs) (hc : c.length = 1) : keysB (b + 1) (grownI xs c) := by
  unfold grownI
  have : ∀ (l acc : DD), keysB b l → keysB (b + 1) acc → keysB (b + 1) (l.foldl (fun acc kn => storedI acc (kn.1 ++ c) kn.2) acc) := by
    intro l
    induction l with
    | nil => intro acc _ h; exact h
    | cons y r ih =>
      intro acc hl ha
      refine ih _ (fun kn hk => hl kn (List.mem_cons_of_mem _ hk)) (ha.stored ?_)
      have h1 := hl y (List.mem_cons_self ..)
      show (y.1.cps ++ c.cps).size ≤ b + 1
      rw [Array.size_append]
      have : c.cps.size = 1 := hc
      have : y.1.cps.size ≤ b := h1
      omega
  exact this xs [] h fun kn hk => by cases hk
theorem tallyStep_keys {b : Nat} {xs : DD} {c : Nat} (h : keysB b xs) : keysB (b + 1) (tallyStep xs c) :=
  keysB.add (h.mono (Nat.le_succ _)) (keysB.grown (fun kn hk => h kn (List.mem_filter.mp hk).1) rfl)
theorem tallyStep_len (xs : DD) (c : Nat) : (tallyStep xs c).length ≤ 2 * xs.length := by
  have h1 := addC_len (grownI (shortI xs) (one1 c)) xs
  have h2 := grownI_len (shortI xs) (one1 c)
  have h3 : (shortI xs).length ≤ xs.length := List.length_filter_le ..
  unfold tallyStep; omega
theorem tallyTo_keys (ds : List Int) : ∀ i, keysB i (tallyTo ds i)
  | 0 => fun kn hk => by
    rw [tallyTo, List.mem_singleton] at hk
    subst hk
    exact Nat.le_refl _
  | i + 1 => by
    rw [tallyTo]
    split
    · exact tallyStep_keys (tallyTo_keys ds i)
    · exact (tallyTo_keys ds i).mono (Nat.le_succ _)
theorem tallyTo_len (ds : List Int) : ∀ i, (tallyTo ds i).length ≤ 2 ^ i
  | 0 => Nat.le_refl _
  | i + 1 => by
    rw [tallyTo, Nat.pow_succ]
    have h := tallyTo_len ds i
    split
    · have := tallyStep_len (tallyTo ds i) (abc (ds.getD i 0 % 4)); omega
    · omega
theorem hdrTo_len (ds : List Int) : ∀ i, (hdrTo ds i).length ≤ i
  | 0 => Nat.le_refl _
  | i + 1 => by
    rw [hdrTo]
    have h := hdrTo_len ds i
    split
    · rw [List.length_append, List.length_singleton]; omega
    · omega
theorem pow_le7 {i : Nat} (h : i ≤ 7) : 2 ^ i ≤ 128 := Nat.le_trans (Nat.pow_le_pow_right (by decide) h) (by decide)

def inN (l : List String) (y : Str) : Prop := ∃ z ∈ l, y = Str.ofString z
section
variable {w : World} {A : Around} {E : Value → Shared → Prop} {s : Shared} {n : Nat} {h₀ : Heap} {v : Str → Option Value}
theorem segC {x L T Dr : Addr} {ds : List Int} (B : Base w h₀) (hA : A.depth < 700) (hh : A.handled = none) (hu : A.units < 5000) (F : FF (LE n) h₀ v s.heap)
    (hdr : v (Str.ofString "drawn") = some (.ref Dr)) (hDP : ¬ Priv (LE n) Dr) (D : IntsL s.heap Dr ds) (hl : ds.length = 9) (hDL : Dr ≠ L)
    (hx : v (Str.ofString "head") = some (.ref x)) (H : HeadP s.heap (fun a => ¬ Priv (LE n) a ∧ a ≠ L) x L) (HL : HdrL s.heap (fun a => ¬ Priv (LE n) a ∧ a ≠ L) L []) (hLP : ¬ Priv (LE n) L) (hL0 : h₀.get? L = none)
    (hta : v (Str.ofString "tally") = some (.ref T)) (DT : DictSI w s.heap T [(e0, 1)]) (hTaP : ¬ Priv (LE n) T) (hTL : T ≠ L) (hTs : (T == sysModules) = false)
    {Q : Flow → Shared → Prop}
    (h : ∀ s' v' T', Sm s s' → FF (LE n) h₀ v' s'.heap → (∀ b o, ¬ Priv (LE n) b → b ≠ L → s.heap.get? b = some o → s'.heap.get? b = some o) →
      (v' (Str.ofString "drawn") = v (Str.ofString "drawn") ∧ v' (Str.ofString "head") = v (Str.ofString "head") ∧ v' (Str.ofString "one") = v (Str.ofString "one") ∧ v' (Str.ofString "two") = v (Str.ofString "two")) →
      HdrL s'.heap (fun a => ¬ Priv (LE n) a ∧ a ≠ L) L (hdrTo ds 7) →
      v' (Str.ofString "tally") = some (.ref T') → DictSI w s'.heap T' (tallyTo ds 7) → ¬ Priv (LE n) T' → T' ≠ L → (T' == sysModules) = false →
      wpAny (model P0 w) A (execs ((fBody (st 24)).drop 9) (LE n)) Q E s') :
    wpAny (model P0 w) A (execs ((fBody (st 24)).drop 8) (LE n)) Q E s := by
  have B₀ : Base w s.heap := B.ext F.keep
  refine wpAny_execs_cons ?_
  refine For_rule (n := 7) (P := fun i v => ∃ t, v = .int i t) (fun a => a = L) (fun Z i v' h' => (∀ b, Z b → s.heap.get? b = none) ∧ (v' (Str.ofString "drawn") = v (Str.ofString "drawn") ∧ v' (Str.ofString "head") = v (Str.ofString "head") ∧ v' (Str.ofString "one") = v (Str.ofString "one") ∧ v' (Str.ofString "two") = v (Str.ofString "two")) ∧
      (∀ b o, ¬ Priv (LE n) b → b ≠ L → s.heap.get? b = some o → h'.get? b = some o) ∧ HdrL h' (fun a => (¬ Priv (LE n) a ∧ a ≠ L) ∧ ¬ Z a) L (hdrTo ds i) ∧
      ∃ T', v' (Str.ofString "tally") = some (.ref T') ∧ ¬ Z T' ∧ ¬ Priv (LE n) T' ∧ T' ≠ L ∧ (T' == sysModules) = false ∧ DictSI w h' T' (tallyTo ds i)) F
    (fun b q => by rw [q]; exact HL.lt)
    (callT1 (T := "range") (fun Q' q => nmB B₀ (by kernel_rfl) (by decide +kernel) q rfl (by kernel_rfl) rfl rfl) (wpAny_Constant_int (src_range (n := 7) (s := s) (s₁ := { s with toks := _ }) hh ⟨rfl, rfl⟩ (fun _ _ e => e))))
    ?_ (by kernel_rfl) ?_ ?_ ?_
  · rintro Z h' hZ k
    have nz : ∀ a, (∃ o, s.heap.get? a = some o) → ¬ Z a := fun a ⟨o, ho⟩ q => by rw [hZ a q] at ho; cases ho
    exact ⟨hZ, ⟨rfl, rfl, rfl, rfl⟩, fun b o _ _ e => k b o e, HL.step (fun o e => k _ _ e) (fun a o _ e => k _ _ e) (fun a ha p => ⟨p, nz a ha⟩), T, hta, nz T DT.lt, hTaP, hTL, hTs, DT.ext k⟩
  · rintro Z k v' h' h₁ hk ⟨a1, a2, a3, a4, T', a5, a6, a7, a8, a9, a10⟩ k'
    refine ⟨a1, a2, fun b o hp hb e => k' b o hp (fun q => by rw [a1 b q] at e; cases e) (a3 b o hp hb e), a4.step (fun o e => k' _ _ hLP ?_ e) (fun a o p e => k' _ _ p.1.1 p.2 e) (fun _ _ p => p), T', a5, a6, a7, a8, a9, a10.at fun o e => k' _ _ a7 a6 e⟩
    intro q
    obtain ⟨o, ho⟩ := HL.lt
    rw [a1 L q] at ho; cases ho
  · rintro Z i val s₁ v' hi7 ⟨ti, rfl⟩ M₁ hZ1 hZ2 F₁ ⟨a1, ⟨a2, a2', a2'', a2'''⟩, a3, a4, T', a5, a6, a7, a8, a9, a10⟩ E'
    have D₁ : IntsL s₁.heap Dr ds := let ⟨vs, a, b⟩ := D; ⟨vs, a.at fun o e => a3 _ _ hDP hDL e, b⟩
    have nz : ∀ {y : Str}, y ≠ Str.ofString "i" → (fun y => if y = Str.ofString "i" then some (Value.int i ti) else v' y) y = v' y := fun {y} hy => if_neg hy
    have gi : (fun y => if y = Str.ofString "i" then some (Value.int i ti) else v' y) (Str.ofString "i") = some (.int i ti) := if_pos rfl
    generalize (fun y => if y = Str.ofString "i" then some (Value.int i ti) else v' y) = v1 at F₁ nz gi
    refine C1 B hA F₁ ((nz (by decide)).trans (a2.trans hdr)) gi D₁ hl hi7 fun s₂ To v2 M₂ F₂ S₂ g2 gt hTP hT0 hT => ?_
    have HL₂ := a4.step (h' := s₂.heap) (P' := fun a => (¬ Priv (LE n) a ∧ a ≠ L) ∧ ¬ Z a) (fun o e => S₂ _ _ hLP e) (fun a o p e => S₂ _ _ p.1.1 e) (fun _ _ p => p)
    refine C2 B hh F₂ gt hTP hT fun s₃ v3 M₃ F₃ S₃ g3 => ?_
    refine C3 B hh hu F₃ ((g3 _ (by decide)).trans ((g2 _ (by decide) (by decide)).trans ((nz (by decide)).trans (a2.trans hdr)))) ((g3 _ (by decide)).trans ((g2 _ (by decide) (by decide)).trans gi)) ?_ hl hi7 ((g3 _ (by decide)).trans gt) (hT.at fun o e => S₃ _ _ hTP e) fun s₄ M₄ F₄ k₄ => ?_
    · obtain ⟨vs, a, b⟩ := D₁
      exact ⟨vs, a.at fun o e => S₃ _ _ hDP (S₂ _ _ hDP e), b⟩
    have k14 : Stay (LE n) s₁.heap s₄.heap := fun b o hp e => k₄ _ _ (S₃ _ _ hp (S₂ _ _ hp e))
    have hToL : To ≠ L := fun e => by obtain ⟨o, ho⟩ := a4.lt; rw [← e, hT0] at ho; cases ho
    have gg : ∀ y, y ≠ Str.ofString "i" → y ≠ Str.ofString "sign" → y ≠ Str.ofString "told" → y ≠ Str.ofString "verdict" → v3 y = v' y := fun y h1 h2 h3 h4 => (g3 y h4).trans ((g2 y h2 h3).trans (nz h1))
    have H₄ : HeadP s₄.heap (fun a => ¬ Priv (LE n) a ∧ a ≠ L) x L := H.step (fun a o p e => k14 _ _ p.1 (a3 _ _ p.1 p.2 e)) fun _ _ p => p
    have HL₄ := HL₂.step (h' := s₄.heap) (P' := fun a => (¬ Priv (LE n) a ∧ a ≠ L) ∧ ¬ Z a) (fun o e => k₄ _ _ (S₃ _ _ hLP e)) (fun a o p e => k₄ _ _ (S₃ _ _ p.1.1 e)) (fun _ _ p => p)
    have D₄ : DictSI w s₄.heap T' (tallyTo ds i) := a10.at fun o e => k14 _ _ a7 e
    have hT4 : s₄.heap.PlainList To (kinds (ds.getD i 0)).toArray := hT.at fun o e => k₄ _ _ (S₃ _ _ hTP e)
    have hnone : ∀ r, s₄.heap.get? r = none → (¬ Priv (LE n) r ∧ r ≠ L) ∧ ¬ Z r := fun r hr => by
      have hrP := F₄.nP hr
      refine ⟨⟨hrP, fun e => ?_⟩, fun q => ?_⟩
      · obtain ⟨o, ho⟩ := HL₄.lt
        rw [← e, hr] at ho; cases ho
      · obtain ⟨o, ho⟩ := hZ1 r q
        have := k14 _ _ hrP ho
        rw [hr] at this; cases this
    refine C4 (T := T') (To := To) (d := ds.getD i 0) (PP := fun a => (¬ Priv (LE n) a ∧ a ≠ L) ∧ ¬ Z a) B hA hh F₄ ((g3 _ (by decide)).trans ((g2 _ (by decide) (by decide)).trans gi)) hi7 ((g3 _ (by decide)).trans gt) hTP hT4 ((gg _ (by decide) (by decide) (by decide) (by decide)).trans (a2'.trans hx)) H₄
      (fun a p => p.1) hnone HL₄ (Nat.le_trans (hdrTo_len ds i) (by omega)) hLP hL0 hToL ((gg _ (by decide) (by decide) (by decide) (by decide)).trans a5) D₄ a7 a8 a9 (Nat.le_trans (tallyTo_len ds i) (Nat.le_trans (pow_le7 (by omega)) (by decide))) (fun kn hk => Nat.le_trans (tallyTo_keys ds i kn hk) (by omega))
      fun s₅ v5 T5 M₅ F₅ k₅ g5 HL₅ b1 b2 b3 b4 b5 b6 => ?_
    refine wpAny_execs_nil ⟨M₁.trans' (M₂.trans' (M₃.trans' (M₄.trans' M₅))), fun b o hp hb e => k₅ b o hp hb (k14 b o hp e), v5, F₅, a1, ⟨?_, ?_, ?_, ?_⟩, fun b o hp hb e => k₅ b o hp hb (k14 b o hp (a3 b o hp hb e)), ?_, T5, b1, ?_, b3, b4, b5, ?_⟩
    · exact (g5 _ (by decide) (by decide) (by decide)).trans ((gg _ (by decide) (by decide) (by decide) (by decide)).trans a2)
    · exact (g5 _ (by decide) (by decide) (by decide)).trans ((gg _ (by decide) (by decide) (by decide) (by decide)).trans a2')
    · exact (g5 _ (by decide) (by decide) (by decide)).trans ((gg _ (by decide) (by decide) (by decide) (by decide)).trans a2'')
    · exact (g5 _ (by decide) (by decide) (by decide)).trans ((gg _ (by decide) (by decide) (by decide) (by decide)).trans a2''')
    · rw [hdrTo]; exact HL₅
    · rcases b6 with rfl | b6
      · exact a6
      · exact (hnone _ b6).2
    · rw [tallyTo]; exact b2
  · rintro Z s₁ v' M₁ F₁ ⟨a1, a2, a3, a4, T', a5, a6, a7, a8, a9, a10⟩
    exact h s₁ v' T' M₁ F₁ a3 a2 (a4.step (fun _ e => e) (fun _ _ _ e => e) fun _ _ p => p.1) a5 a10 a7 a8 a9
end
end Zd

namespace Zd
open PySem PySem.W PyProof.Rows PySem.Calls

theorem valueAt_map {l : List (Str × Value)} {k k' : Str} {y : Value} : valueAt (l.map fun kv => if kv.1 = k then (kv.1, y) else kv) k' = if k = k' then (if l.any (fun kv => kv.1 = k) then some y else none) else valueAt l k' := by
  induction l with
  | nil => by_cases h : k = k' <;> simp [valueAt, h]
  | cons x r ih =>
    unfold valueAt at ih ⊢
    rw [List.map_cons, List.find?_cons, List.find?_cons, List.any_cons]
    by_cases h1 : x.1 = k
    · by_cases h : k = k'
      · subst h; simp [h1]
      · have h2 : ¬ x.1 = k' := fun e => h (h1.symm.trans e)
        simp only [h1, if_true, if_neg h, decide_eq_false_iff_not.mpr h, decide_eq_false_iff_not.mpr h2] at ih ⊢
        exact ih
    · by_cases h : k = k'
      · subst h
        simp only [if_neg h1, decide_eq_false_iff_not.mpr h1, Bool.false_or, if_true] at ih ⊢
        exact ih
      · simp only [if_neg h1, if_neg h] at ih ⊢
        cases hd : decide (x.1 = k') with
        | true => rfl
        | false => exact ih
theorem valueAt_stored {l : List (Str × Value)} {k k' : Str} {y : Value} : valueAt (stored l k y) k' = if k = k' then some y else valueAt l k' := by
  unfold stored
  by_cases ha : (l.any fun kv => kv.1 = k) = true
  · rw [if_pos ha, valueAt_map, if_pos ha]
  · rw [if_neg ha]
    have hn : ∀ x ∈ l, ¬ x.1 = k := fun x hx e => ha (List.any_eq_true.mpr ⟨x, hx, by simpa using e⟩)
    unfold valueAt
    rw [List.find?_append]
    by_cases h : k = k'
    · subst h
      rw [List.find?_eq_none.mpr fun x hx => by simpa using hn x hx]
      simp
    · rw [if_neg h]
      cases hf : l.find? fun kv => decide (kv.1 = k') with
      | none => simp [h]
      | some z => rfl

def lowS (c : Nat) : Str := Str.ofString "c." ++ one1 c
theorem lowS_ok : ∀ k : Nat, k < 3 → Txt.lower (nameS (abc k)) = lowS (abc k) ∧ Txt.lower (lowS (abc k)) = lowS (abc k) ∧ failsOn codesN (lowS (abc k)).cps = true ∧ (lowS (abc k)).cps.size < 1000 := by decide +kernel
theorem one1_inj {a b : Nat} (h : one1 a = one1 b) : a = b := by
  unfold one1 at h
  injection h with h; injection h with h; injection h
theorem lowS_inj {a b : Nat} (h : lowS a = lowS b) : a = b := by
  unfold lowS one1 at h
  have h : (Str.ofString "c.").cps ++ #[a] = (Str.ofString "c.").cps ++ #[b] := by
    injection h
  have h := Array.append_right_inj _ |>.mp h
  injection h with h; injection h
def idx (ds : List Int) (c : Nat) : Nat → List Nat
  | 0 => []
  | i + 1 => if ds.getD i 0 % 4 < 3 ∧ abc (ds.getD i 0 % 4) = c then idx ds c i ++ [i] else idx ds c i
def placesOf (ds : List Int) (c : Nat) : List Int := (idx ds c 7).map fun i : Nat => (i : Int)
theorem idx_lt (ds : List Int) (c : Nat) : ∀ i, ∀ j ∈ idx ds c i, j < i
  | 0, j, h => by cases h
  | i + 1, j, h => by
    rw [idx] at h
    split at h
    · rcases List.mem_append.mp h with h | h
      · exact Nat.lt_succ_of_lt (idx_lt ds c i j h)
      · rw [List.mem_singleton] at h; omega
    · exact Nat.lt_succ_of_lt (idx_lt ds c i j h)
theorem idx_len (ds : List Int) (c : Nat) : ∀ i, (idx ds c i).length ≤ i
  | 0 => Nat.le_refl _
  | i + 1 => by
    rw [idx]
    have := idx_len ds c i
    split
    · rw [List.length_append, List.length_singleton]; omega
    · omega
theorem abc_nat {x : Int} (h0 : 0 ≤ x) (h3 : x < 3) : ∃ k : Nat, k < 3 ∧ x = (k : Int) := ⟨x.toNat, by omega, by omega⟩
theorem pick_hdr (ds : List Int) (c : Nat) : ∀ i, pick (hdrTo ds i) (lowS c) = (idx ds c i).map numS
  | 0 => rfl
  | i + 1 => by
    have ih := pick_hdr ds c i
    rw [hdrTo, idx]
    by_cases h : ds.getD i 0 % 4 < 3
    · rw [if_pos h]
      obtain ⟨k, hk, e⟩ := abc_nat (show 0 ≤ ds.getD i 0 % 4 by omega) h
      rw [e]
      unfold pick at ih ⊢
      rw [List.filter_append, List.map_append, ih]
      simp only [List.filter_cons, List.filter_nil, (lowS_ok k hk).1]
      by_cases hc : abc (k : Int) = c
      · rw [if_pos (show (k : Int) < 3 ∧ abc (k : Int) = c from ⟨by omega, hc⟩), List.map_append]
        have e1 : (lowS (abc (k : Int)) == lowS c) = true := by rw [hc]; exact beq_self_eq_true _
        rw [e1]
        rfl
      · rw [if_neg (show ¬ ((k : Int) < 3 ∧ abc (k : Int) = c) from fun q => hc q.2)]
        have e1 : (lowS (abc (k : Int)) == lowS c) = false := by
          rw [beq_eq_false_iff_ne]
          exact fun q => hc (lowS_inj q)
        rw [e1]
        simp
    · rw [if_neg h, if_neg (fun q => h q.1)]; exact ih
theorem hdr_low (ds : List Int) : ∀ i, ∀ p ∈ hdrTo ds i, (Txt.lower p.1).length < 1000
  | 0, p, h => by cases h
  | i + 1, p, h => by
    rw [hdrTo] at h
    split at h
    · next hd =>
      rcases List.mem_append.mp h with h | h
      · exact hdr_low ds i p h
      · rw [List.mem_singleton] at h; subst h
        obtain ⟨k, hk, e⟩ := abc_nat (show 0 ≤ ds.getD i 0 % 4 by omega) hd
        rw [e]
        show (Txt.lower (nameS (abc k))).length < 1000
        rw [(lowS_ok k hk).1]
        exact (lowS_ok k hk).2.2.2
    · exact hdr_low ds i p h

/-- the dict of places, outside a frame -/
def PlacesP (w : World) (env : Env) (h : Heap) (d : Addr) (f : Nat → List Int) : Prop :=
  ¬ Priv env d ∧ (d == sysModules) = false ∧ ∃ kvs, h.DictOf (strKind P0 w) d kvs ∧ ∀ c, c = 54 ∨ c = 55 ∨ c = 57 → ∃ L, valueAt kvs (one1 c) = some (.ref L) ∧ ¬ Priv env L ∧ IntsL h L (f c)
theorem PlacesP.at {w : World} {env : Env} {h : Heap} {d : Addr} {f : Nat → List Int} (D : PlacesP w env h d f) : PlacesAt w h d f :=
  let ⟨_, _, kvs, a, b⟩ := D; ⟨kvs, a, fun c hc => let ⟨L, x, _, y⟩ := b c hc; ⟨L, x, y⟩⟩
theorem PlacesP.step {w : World} {env : Env} {h h' : Heap} {d : Addr} {f : Nat → List Int} (D : PlacesP w env h d f) (k : Stay env h h') : PlacesP w env h' d f :=
  let ⟨p, q, kvs, a, b⟩ := D; ⟨p, q, kvs, a.at fun o e => k _ _ p e, fun c hc => let ⟨L, x, y, vs, z1, z2⟩ := b c hc; ⟨L, x, y, vs, z1.at fun o e => k _ _ y e, z2⟩⟩

theorem Src.imp {w : World} {A : Around} {env : Env} {X : Addr → Prop} {s s₂ : Shared} {it : Value} {n m : Nat} {P P' : Nat → Value → Prop} (S : Src w A env X s s₂ it n P) (e : n = m) (h : ∀ i v, i < n → P i v → P' i v) : Src w A env X s s₂ it m P' := by
  subst e
  obtain ⟨I, fp, wr, St, a, W, b⟩ := S
  exact ⟨I, fp, wr, St, a, ⟨W.sub, W.frame, fun i s Q E hi st hQ => W.item i s Q E hi st fun v h' tk p => hQ v h' tk (h i v hi p), W.done, W.self⟩, b⟩

section
variable {w : World} {A : Around} {E : Value → Shared → Prop} {s : Shared} {n : Nat} {h₀ : Heap} {v : Str → Option Value}
theorem segD {x L : Addr} {ds : List Int} (B : Base w h₀) (hA : A.depth < 700) (hh : A.handled = none) (F : FF (LE n) h₀ v s.heap)
    (hx : v (Str.ofString "head") = some (.ref x)) (H : HeadP s.heap (fun a => ¬ Priv (LE n) a ∧ a ≠ L) x L) (HL : HdrL s.heap (fun a => ¬ Priv (LE n) a ∧ a ≠ L) L (hdrTo ds 7))
    {Q : Flow → Shared → Prop}
    (h : ∀ s' v' Pl, Sm s s' → FF (LE n) h₀ v' s'.heap → Stay (LE n) s.heap s'.heap → (∀ y, y ≠ Str.ofString "places" → v' y = v y) →
      v' (Str.ofString "places") = some (.ref Pl) → PlacesP w (LE n) s'.heap Pl (placesOf ds) →
      wpAny (model P0 w) A (execs ((fBody (st 24)).drop 10) (LE n)) Q E s') :
    wpAny (model P0 w) A (execs ((fBody (st 24)).drop 9) (LE n)) Q E s := by
  have B₀ : Base w s.heap := B.ext F.keep
  have habc : ∀ j : Nat, j < 3 → (Str.ofString "679").cps[j]? = some (abc j) := by decide +kernel
  refine wpAny_execs_cons ?_
  refine CompD_assign (ns := [Str.ofString "head"]) (n := (Str.ofString "679").cps.size) (Up := fun i v' => ∃ val, SignAt (Str.ofString "679") i val ∧ v' (Str.ofString "letter") = some val)
    (fun bad i l h => ∀ j : Nat, j < i → ∃ Li, valueAt l (one1 (abc j)) = some (.ref Li) ∧ ¬ bad Li ∧ ¬ Priv (LE n) Li ∧ IntsL h Li (placesOf ds (abc j))) F (by rw [sizeLine_eq]; decide +kernel)
    (Constant_str (wpAny_mono (src_str (s := { s with toks := _ }) (X := fun _ => False) (env := LE n) hh (by decide +kernel)) (fun it s₂ q => ⟨⟨q.1.gens, q.1.os⟩, q.2.1, SrcF.name F (by decide +kernel) q.2.2⟩) fun _ _ e => e))
    (fun bad h _ _ j hj => absurd hj (Nat.not_lt_zero _)) (fun bad i l h h₁ a k j hj => let ⟨Li, e1, e2, e3, vs, e4, e5⟩ := a j hj; ⟨Li, e1, e2, e3, vs, e4.at fun o e => k _ _ e2 e3 e, e5⟩) ?_ (by kernel_rfl) ?_
  · rintro bad C i l s₁ v₁ hi M₁ k₁ F₁ ⟨val, ⟨c, u, hc, rfl⟩, e1⟩ hv₁ hbad hj E'
    have hi3 : i < 3 := by
      have e : (Str.ofString "679").cps.size = 3 := by decide +kernel
      rw [e] at hi; exact hi
    obtain rfl : abc i = c := by
      rw [habc i hi3] at hc; exact Option.some.inj hc
    refine Tests.nil ?_
    simp only [if_true]
    refine nmF F₁ e1 ⟨one1 (abc i), u, rfl, ?_⟩ (by kernel_rfl)
    have B₁ : Base w s₁.heap := B₀.ext k₁
    have H₁ : HeadP s₁.heap (fun a => ¬ Priv (LE n) a ∧ a ≠ L) x L := H.step (fun a o p e => k₁ _ _ e) fun _ _ p => p
    have HL₁ := HL.step (h' := s₁.heap) (P' := fun a => ¬ Priv (LE n) a ∧ a ≠ L) (fun o e => k₁ _ _ e) (fun a o p e => k₁ _ _ e) (fun _ _ p => p)
    obtain ⟨l1, l2, l3, l4⟩ := lowS_ok i hi3
    refine CompL (ns := []) (n := (idx ds (abc i) 7).length) (Up := fun k v' => ∃ val, (∃ m t, (idx ds (abc i) 7)[k]? = some m ∧ val = .str (numS m) t) ∧ v' (Str.ofString "numeral") = some val)
      (fun bad k l h => IntsAre l (((idx ds (abc i) 7).take k).map fun m : Nat => (m : Int))) F₁ (by rw [sizeLine_eq]; have := idx_len ds (abc i) 7; omega) ?_ (fun _ _ _ _ => .nil) (fun _ _ _ _ _ a _ => a) ?_ ?_
    · refine Call_meth (x := x) (f := 177) (ob := o177 w.params) (fd := fd177) (nmF F₁ ((hv₁ _ (by decide +kernel)).trans hx) ⟨rfl, fun pl Q' q => head_method B₁ H₁.head (by kernel_rfl) (by kernel_rfl) (by decide +kernel) q, ?_⟩ (by kernel_rfl)) rfl rfl rfl
      refine evalArgs_plain (spliced_cons (wpAny_BinOp (Constant_str (nmF (s := { s₁ with toks := _ }) F₁ e1 (add_str (fun t3 m3 => spliced_nil ⟨⟨B₁.k 177 _ rfl, rfl⟩, ?_⟩) (by rw [sizeLine_eq]; show 2 + 1 ≤ _; decide)) (by kernel_rfl)))))
      refine get_spec (s := { s₁ with toks := _ }) (name := lowS (abc i)) B₁ (by omega) hh H₁.head HL₁ (Nat.le_trans (hdrTo_len ds 7) (by decide)) l2 l3 l4 (hdr_low ds 7) fun s₂ R M₂ k₂ hR hW => ?_
      rw [pick_hdr] at hW
      obtain ⟨ws, hws, hww⟩ := hW
      have hRP : ¬ Priv (compEnvC { kind := ScopeKind.function, names := [(Str.ofString ".0", NameKind.local), (Str.ofString "letter", NameKind.local), (Str.ofString "head", NameKind.free)], isGenerator := false, isCoroutine := false } (capt (LE n) [Str.ofString "head"]) C (LE n)) R := F₁.nP hR.none
      have hwl : ws.toArray.size = (idx ds (abc i) 7).length := by rw [List.size_toArray, wordsAre_len hww, List.length_map]
      refine wpAny_mono (src_list (s := s₁) (s₁ := s₂) (X := fun _ => False) (A := A) hh ⟨M₂.gens, M₂.os⟩ k₂ hws.isList hRP (fun q => q)) (fun it s₃ q => ⟨q.1, q.2.1, SrcF.name F₁ (by decide +kernel) (q.2.2.imp hwl fun k val _ hval => ?_)⟩) fun _ _ e => e
      obtain ⟨m, t, hm, rfl⟩ := wordsAre_val hww (i := k) (v := val) (by simpa using hval)
      rw [List.getElem?_map] at hm
      obtain ⟨j, hj, rfl⟩ := Option.map_eq_some_iff.mp hm
      exact ⟨j, t, hj, rfl⟩
    · rintro bad' C' k l' s₂ v₂ hk M₂ k₂ F₂ ⟨val, ⟨m, t, hm, rfl⟩, e2⟩ hv₂ _ hjj E''
      refine Tests.nil ?_
      simp only [if_true]
      have B₂ : Base w s₂.heap := B₁.ext k₂
      have hm7 : m < 7 := idx_lt ds (abc i) 7 m (List.mem_of_getElem? hm)
      refine callT1 (T := "int") (fun Q' q => nmB B₂ (by kernel_rfl) (by decide +kernel) q rfl (by kernel_rfl) rfl rfl) (nmF F₂ e2 (KIN.call_num (by omega) (by omega) ⟨⟨rfl, rfl⟩, fun _ _ e => e, ?_⟩) (by kernel_rfl))
      rw [List.take_add_one, hm, List.map_append]
      exact intsAre_snoc _ _ hjj
    · intro bad' D' l' s₂ M₂ k₂ hD' F₂ hl' hj'
      rw [List.take_length] at hj'
      have hDs : s.heap.get? D' = none := none_of_ext k₁ hD'.none
      refine ⟨M₂, k₂, fun j hjlt => ?_⟩
      rw [valueAt_stored]
      by_cases hji : j = i
      · subst hji
        refine ⟨D', if_pos rfl, fun q => ?_, F.nP hDs, l', hl', hj'⟩
        obtain ⟨o, ho⟩ := hbad D' q
        rw [hD'.none] at ho; cases ho
      · obtain ⟨Li, a1, a2, a3, vs, a4, a5⟩ := hj j (by omega)
        refine ⟨Li, ?_, a2, a3, vs, a4.at fun o e => k₂ _ _ e, a5⟩
        rw [if_neg]
        · exact a1
        · intro e
          have e := one1_inj e
          have : ∀ a : Nat, a < 3 → ∀ b : Nat, b < 3 → abc (a : Int) = abc (b : Int) → a = b := by decide
          exact hji (this _ hi3 _ (by omega) e).symm
  · intro bad D l s₁ M₁ hD F₁ k₁ hl hj
    have hsz : (Str.ofString "679").cps.size = 3 := by decide +kernel
    rw [hsz] at hj
    refine h s₁ _ D M₁ F₁ (fun b o hp e => k₁ b o hp e) (fun y hy => if_neg hy) (if_pos rfl) ⟨F.nP hD.none, B₀.above hD, l, hl, fun c hc => ?_⟩
    obtain ⟨j, hj3, rfl⟩ : ∃ j : Nat, j < 3 ∧ c = abc (j : Int) := by
      rcases hc with rfl | rfl | rfl
      · exact ⟨0, by decide, rfl⟩
      · exact ⟨1, by decide, rfl⟩
      · exact ⟨2, by decide, rfl⟩
    obtain ⟨Li, a1, _, a3, a4⟩ := hj j hj3
    exact ⟨Li, a1, a3, a4⟩
end
end Zd

namespace Zd
open PySem PySem.W PyProof.Rows PySem.Calls

def choicesTo (ds : List Int) : Nat → List Str
  | 0 => [e0]
  | i + 1 => if ds.getD i 0 % 4 < 3 then choicesTo ds i ++ (choicesTo ds i).map (· ++ one1 (abc (ds.getD i 0 % 4))) else choicesTo ds i
theorem choices_len (ds : List Int) : ∀ i, (choicesTo ds i).length ≤ 2 ^ i
  | 0 => Nat.le_refl _
  | i + 1 => by
    rw [choicesTo, Nat.pow_succ]
    have h := choices_len ds i
    split
    · rw [List.length_append, List.length_map]; omega
    · omega
theorem len_app1 (x : Str) (c : Nat) : (x ++ one1 c).length = x.length + 1 := by
  show (x.cps ++ (one1 c).cps).size = x.cps.size + 1
  rw [Array.size_append]; rfl
theorem choices_words (ds : List Int) : ∀ i, ∀ x ∈ choicesTo ds i, x.length ≤ i
  | 0, x, h => by
    rw [choicesTo, List.mem_singleton] at h; subst h; exact Nat.le_refl _
  | i + 1, x, h => by
    rw [choicesTo] at h
    split at h
    · rcases List.mem_append.mp h with h | h
      · exact Nat.le_succ_of_le (choices_words ds i x h)
      · obtain ⟨y, hy, rfl⟩ := List.mem_map.mp h
        have := choices_words ds i y hy
        rw [len_app1]; omega
    · exact Nat.le_succ_of_le (choices_words ds i x h)
theorem wordsAre_app : ∀ {vs ws : List Value} {xs ys : List Str}, WordsAre vs xs → WordsAre ws ys → WordsAre (vs ++ ws) (xs ++ ys)
  | _, _, _, _, .nil, h => h
  | _, _, _, _, .cons x t r, h => .cons x t (wordsAre_app r h)
theorem WordsL.step {h h' : Heap} {L : Addr} {xs : List Str} (W : WordsL h L xs) (k : ∀ o, h.get? L = some o → h'.get? L = some o) : WordsL h' L xs := let ⟨vs, a, b⟩ := W; ⟨vs, a.at k, b⟩
theorem WordsL.lt {h : Heap} {L : Addr} {xs : List Str} (W : WordsL h L xs) : ∃ o, h.get? L = some o := let ⟨_, ⟨n, a⟩, _⟩ := W; ⟨_, a⟩

section
variable {w : World} {A : Around} {E : Value → Shared → Prop} {s : Shared} {n : Nat} {h₀ : Heap} {v : Str → Option Value}
theorem add_words {a b : Addr} {xs ys : List Str} {Q : Value → Shared → Prop} (ha : WordsL s.heap a xs) (hb : WordsL s.heap b ys) (hz : xs.length + ys.length ≤ 100000)
    (h : WordsL (s.heap.push { cls := .type "list", data := .seq (Array.mk []) }) a xs → ∀ s', Sm s s' → Ext s.heap s'.heap → WordsL s'.heap s.heap.objs.size (xs ++ ys) → Q (.ref s.heap.objs.size) s') :
    wpAny (model P0 w) A (binaryOp .Add (.ref a) (.ref b)) Q E s := by
  have hx := ha.ext (Ext.push' s.heap { cls := .type "list", data := .seq (Array.mk []) })
  obtain ⟨vs, ⟨n1, h1⟩, h2⟩ := ha
  obtain ⟨ws, ⟨n2, h3⟩, h4⟩ := hb
  refine P.add_list h1 h3 (h hx _ ⟨rfl, rfl⟩ (Ext.push' _ _) ⟨vs ++ ws, ⟨_, (Heap.get?_push_size _ rfl).trans (by rw [List.append_toArray])⟩, wordsAre_app h2 h4⟩) ?_
  rw [List.size_toArray, List.size_toArray, wordsAre_len h2, wordsAre_len h4, sizeLine_eq]; omega

theorem segE {Dr : Addr} {ds : List Int} (B : Base w h₀) (hA : A.depth < 700) (hh : A.handled = none) (F : FF (LE n) h₀ v s.heap)
    (hdr : v (Str.ofString "drawn") = some (.ref Dr)) (hDP : ¬ Priv (LE n) Dr) (D : IntsL s.heap Dr ds) (hl : ds.length = 9)
    {Q : Flow → Shared → Prop}
    (h : ∀ s' v' Ch, Sm s s' → FF (LE n) h₀ v' s'.heap → Stay (LE n) s.heap s'.heap → (∀ y, y ≠ Str.ofString "choices" → y ≠ Str.ofString "x" → v' y = v y) →
      v' (Str.ofString "choices") = some (.ref Ch) → WordsL s'.heap Ch (choicesTo ds 7) → ¬ Priv (LE n) Ch →
      wpAny (model P0 w) A (execs ((fBody (st 24)).drop 12) (LE n)) Q E s') :
    wpAny (model P0 w) A (execs ((fBody (st 24)).drop 10) (LE n)) Q E s := by
  refine wpAny_execs_cons (wpAny_Assign_Name (wpAny_List_spliced (spliced_cons (Constant_str (k := 0) (pos := ⟨200, 15, 200, 17⟩) (spliced_nil ⟨by simp [sizeLine_eq], ?_⟩)))))
  have hC : WordsL (s.heap.push { cls := .type "list", data := .seq ([Value.str (Str.ofString "") s.toks]).toArray }) s.heap.objs.size (choicesTo ds 0) := ⟨_, ⟨_, Heap.get?_push_size _ rfl⟩, .cons _ _ .nil⟩
  have hCP : ¬ Priv (LE n) s.heap.objs.size := F.size_notPriv (Nat.le_refl _)
  have k₁ := Ext.push' s.heap { cls := .type "list", data := .seq ([Value.str (Str.ofString "") s.toks]).toArray }
  have F₁ := F.ext k₁
  refine stF (s := { s with heap := s.heap.push { cls := .type "list", data := .seq ([Value.str (Str.ofString "") s.toks]).toArray }, toks := s.toks + 1 }) F₁ (by kernel_rfl) fun s₂ M₂ F₂ S₂ => ?_
  have hC2 := hC.step (h' := s₂.heap) fun o e => S₂ _ _ hCP e
  have k02 : Stay (LE n) s.heap s₂.heap := fun b o hp e => S₂ b o hp (k₁ _ _ e)
  have D₂ : IntsL s₂.heap Dr ds := let ⟨vs, a, b⟩ := D; ⟨vs, a.at fun o e => k02 _ _ hDP e, b⟩
  generalize s.heap.objs.size = Ch at hC2 hCP F₂ ⊢
  obtain ⟨vs, dl, di⟩ := D₂
  have hpick : IntsAre (slicePick vs.toArray none (some 7) none).toList (ds.take 7) := kmk_upto (y := 7) di (by decide)
  have hps : (slicePick vs.toArray none (some 7) none).size = 7 := by
    have := intsAre_len hpick
    rw [Array.length_toList] at this
    rw [this, List.length_take, hl]; rfl
  refine wpAny_execs_cons ?_
  refine For_rule (n := 7) (P := fun i val => ∃ t, val = .int (ds.getD i 0) t) (fun _ => False) (fun Z i v' h' => (∀ b, Z b → s₂.heap.get? b = none) ∧ (∀ y, y ≠ Str.ofString "choices" → y ≠ Str.ofString "x" → v' y = v y) ∧ Stay (LE n) s₂.heap h' ∧
      ∃ C, v' (Str.ofString "choices") = some (.ref C) ∧ ¬ Z C ∧ ¬ Priv (LE n) C ∧ WordsL h' C (choicesTo ds i)) F₂ (fun _ q => q.elim)
    (wpAny_Subscript_list_slice (nmF F₂ ((if_neg (by decide)).trans hdr) (evalPart_none_step (evalPart_some_step (wpAny_Constant_int ⟨Dr, vs.toArray, none, some 7, rfl, dl.isList, by rw [List.size_toArray, intsAre_len di, hl, sizeLine_eq]; omega, .none, .int _ _, ?_⟩))) (by kernel_rfl)))
    ?_ (by kernel_rfl) ?_ ?_ ?_
  · have hlist : ((s₂.heap.push { cls := .type "slice", data := .fields #[.none, .int 7 s₂.toks, .none] }).push { cls := .type "list", data := .seq (slicePick vs.toArray none (some 7) none) }).IsList (s₂.heap.objs.size + 1) (slicePick vs.toArray none (some 7) none) := by
      have := Heap.get?_push_size (h := s₂.heap.push { cls := .type "slice", data := .fields #[.none, .int 7 s₂.toks, .none] }) (o := { cls := .type "list", data := .seq (slicePick vs.toArray none (some 7) none) }) rfl
      rw [Heap.size_push] at this
      exact ⟨_, this, rfl, _, rfl⟩
    have hP : ¬ Priv (LE n) (s₂.heap.objs.size + 1) := F₂.size_notPriv (Nat.le_succ _)
    refine wpAny_mono (src_list (s := s₂) (s₁ := { s₂ with heap := _, toks := _ }) (X := fun _ => False) hh ⟨rfl, rfl⟩ ((Ext.push' _ _).trans' (Ext.push' _ _)) hlist hP (fun q => q)) (fun it s₃ q => ⟨q.1, q.2.1, q.2.2.imp hps fun i val hi hval => ?_⟩) fun _ _ e => e
    rw [← Array.getElem?_toList] at hval
    obtain ⟨m, t, hm, rfl⟩ := intsAre_val hpick hval
    refine ⟨t, ?_⟩
    rw [hps] at hi
    rw [List.getElem?_take_of_lt hi] at hm
    rw [List.getD_eq_getElem?_getD, hm]; rfl
  · rintro Z h' hZ k
    refine ⟨hZ, fun y h1 h2 => if_neg h1, Stay.ext k, Ch, if_pos rfl, fun q => ?_, hCP, hC2.ext k⟩
    obtain ⟨o, ho⟩ := hC2.lt
    rw [hZ _ q] at ho; cases ho
  · rintro Z i v' h' h₁ hi ⟨a1, a2, a3, C, a4, a5, a6, a7⟩ k
    exact ⟨a1, a2, fun b o hp e => k b o hp (fun q => by rw [a1 b q] at e; cases e) (a3 b o hp e), C, a4, a5, a6, a7.step fun o e => k _ _ a6 a5 e⟩
  · rintro Z i val s₃ v' hi ⟨tx, rfl⟩ M₃ hZ1 hZ2 F₃ ⟨a1, a2, a3, C, a4, a5, a6, a7⟩ E'
    have g1 : (fun y => if y = Str.ofString "x" then some (Value.int (ds.getD i 0) tx) else v' y) (Str.ofString "x") = some (.int (ds.getD i 0) tx) := if_pos rfl
    have g2 : ∀ y, y ≠ Str.ofString "x" → (fun y => if y = Str.ofString "x" then some (Value.int (ds.getD i 0) tx) else v' y) y = v' y := fun y hy => if_neg hy
    generalize (fun y => if y = Str.ofString "x" then some (Value.int (ds.getD i 0) tx) else v' y) = v3 at F₃ g1 g2
    have hcl := choices_len ds i
    have hp7 := pow_le7 (show i ≤ 7 by omega)
    refine wpAny_execs_cons (wpAny_If (wpAny_isTrue_Compare1 (wpAny_BinOp (nmF F₃ g1 (wpAny_Constant_int (modI (by decide) fun t m => wpAny_Constant_int (lt_int (wpAny_truthy_bool ?_)))) (by kernel_rfl)))))
    rw [choicesTo]
    generalize hd : ds.getD i 0 = d at g1
    by_cases hlt : d % 4 < 3
    · rw [if_pos (by simpa using hlt)]
      obtain ⟨vc, wl, wa⟩ := id a7
      have hvl := wordsAre_len wa
      refine wpAny_execs_cons (wpAny_Assign_Name (wpAny_BinOp (nmF (s := { s₃ with toks := _ }) F₃ ((g2 _ (by decide)).trans a4) ?_ (by kernel_rfl))))
      refine CompL (ns := [Str.ofString "x"]) (n := vc.toArray.size) (Up := fun i v' => ∃ val, vc.toArray[i]? = some val ∧ v' (Str.ofString "word") = some val)
        (fun bad k l h => WordsAre l (((choicesTo ds i).take k).map (· ++ one1 (abc (d % 4))))) (s := { s₃ with toks := _ }) F₃ (by rw [List.size_toArray, hvl, sizeLine_eq]; omega)
        (nmF (s := { s₃ with toks := _ }) F₃ ((g2 _ (by decide)).trans a4) (wpAny_mono (src_list (s := { s₃ with toks := _ }) (s₁ := { s₃ with toks := _ }) (X := fun _ => False) (env := LE n) hh ⟨rfl, rfl⟩ (fun _ _ e => e) wl.isList a6 (fun q => q)) (fun it s₄ q => ⟨q.1, q.2.1, SrcF.name (s := { s₃ with toks := _ }) F₃ (by decide +kernel) q.2.2⟩) fun _ _ e => e) (by kernel_rfl))
        (fun _ _ _ _ => .nil) (fun _ _ _ _ _ a _ => a) ?_ ?_
      · rintro bad Cc k l s₄ v₄ hk M₄ k₄ F₄ ⟨val, hval, e1⟩ hv₄ _ hj E''
        obtain ⟨x, t, hx, rfl⟩ := wordsAre_val wa (i := k) (v := val) (by simpa using hval)
        have hxl := choices_words ds i x (List.mem_of_getElem? hx)
        refine Tests.nil ?_
        simp only [if_true]
        refine wpAny_BinOp (nmF F₄ e1 (abcE s₄.toks fun tk => wpAny_BinOp (nmF (s := { s₄ with toks := tk }) F₄ ((hv₄ _ (by decide +kernel)).trans g1) (wpAny_Constant_int (modI (by decide) fun t m => ⟨_, _, rfl, by omega, hlt, fun t3 m3 => ?_⟩)) (by kernel_rfl))) (by kernel_rfl))
        refine add_str (fun t4 m4 => ⟨⟨rfl, rfl⟩, fun _ _ e => e, ?_⟩) (by rw [sizeLine_eq]; show x.length + 1 ≤ _; omega)
        rw [List.take_add_one, hx, List.map_append]
        exact wordsAre_snoc _ _ hj
      · intro bad Dl l s₄ M₄ k₄ hDl F₄ hll hj
        have e : vc.toArray.size = (choicesTo ds i).length := by rw [List.size_toArray, hvl]
        rw [e, List.take_length] at hj
        refine add_words (a7.ext k₄) ⟨l, hll, hj⟩ (by rw [List.length_map]; omega) fun _ s₅ M₅ k₅ W₅ => ?_
        have hNP : ¬ Priv (LE n) s₄.heap.objs.size := F₄.size_notPriv (Nat.le_refl _)
        have hNn : s₃.heap.get? s₄.heap.objs.size = none := none_of_ext k₄ (Heap.fresh (Nat.le_refl _))
        generalize s₄.heap.objs.size = N at W₅ hNP hNn ⊢
        refine stF (F₄.ext k₅) (by kernel_rfl) fun s₆ M₆ F₆ S₆ => wpAny_execs_nil (wpAny_execs_nil ?_)
        refine ⟨M₃.trans' (⟨M₆.gens.trans (M₅.gens.trans M₄.gens), M₆.os.trans (M₅.os.trans M₄.os)⟩ : Sm s₃ s₆), fun b o hp _ e => S₆ b o hp (k₅ _ _ (k₄ _ _ e)), _, F₆, a1, fun y h1 h2 => (if_neg h1).trans ((g2 y h2).trans (a2 y h1 h2)), fun b o hp e => S₆ b o hp (k₅ _ _ (k₄ _ _ (a3 b o hp e))), N, if_pos rfl, fun q => ?_, hNP, ?_⟩
        · obtain ⟨o, ho⟩ := hZ1 N q
          rw [hNn] at ho; cases ho
        · rw [if_pos hlt]
          exact W₅.step fun o e => S₆ _ _ hNP e
    · rw [if_neg (by simpa using hlt)]
      refine wpAny_execs_nil (wpAny_execs_nil ⟨⟨M₃.gens, M₃.os⟩, fun _ _ _ _ e => e, v3, F₃, a1, fun y h1 h2 => (g2 y h2).trans (a2 y h1 h2), a3, C, (g2 _ (by decide)).trans a4, a5, a6, ?_⟩)
      rw [if_neg hlt]; exact a7
  · rintro Z s₃ v' M₃ F₃ ⟨a1, a2, a3, C, a4, a5, a6, a7⟩
    exact h s₃ v' C ((⟨M₂.gens, M₂.os⟩ : Sm s s₂).trans' M₃) F₃ (k02.trans a3) a2 a4 a7 a6
end
end Zd

namespace Zd
open PySem PySem.W PyProof.Rows PySem.Calls

theorem strsAre : ∀ {vs : List Value} {xs : List Str}, WordsAre vs xs → StrsAre vs xs
  | _, _, .nil => .nil
  | _, _, .cons x t h => .cons x t (strsAre h)
theorem countIn_count (k : Str) : ∀ xs : List Str, PySem.Spec.countIn (.str k) (xs.map PyData.str) = (xs.count k : Int)
  | [] => rfl
  | x :: r => by
    rw [List.map_cons, PySem.Spec.countIn, countIn_count k r, List.count_cons]
    have e : PySem.Spec.same (.str x) (.str k) = (x == k) := rfl
    rw [e]
    cases x == k <;> simp <;> omega
def valI0 (xs : DD) (k : Str) : Int := (valI xs k).getD 0

section
variable {w : World} {A : Around} {E : Value → Shared → Prop} {s : Shared} {env : Env} {h₀ : Heap} {v : Str → Option Value}
theorem count_words {l : Addr} {xs : List Str} {k : Str} {t : Tok} {Q : Value → Shared → Prop} (W : WordsL s.heap l xs) (h : ∀ t' m, Q (.int (xs.count k : Nat) t') { s with toks := m }) :
    wpAny (model P0 w) A (call (.builtin "list.count") [.ref l, .str k t] []) Q E s := by
  obtain ⟨vs, hl, hw⟩ := W
  refine count_list_strs hl.isList (strsAre hw) ?_
  rw [countIn_count]
  exact h _ _
theorem len_words {l : Addr} {xs : List Str} {Q : Value → Shared → Prop} (W : WordsL s.heap l xs) (hz : xs.length ≤ 100000) (h : ∀ t' m, Q (.int (xs.length : Nat) t') { s with toks := m }) :
    wpAny (model P0 w) A (call (.builtin "len") [.ref l] []) Q E s := by
  obtain ⟨vs, hl, hw⟩ := W
  have e : vs.toArray.size = xs.length := by rw [List.size_toArray, wordsAre_len hw]
  refine call_len_list hl.isList (by rw [e]; omega) ?_
  rw [e]
  exact h _ _
/-- nm.count(e) -/
theorem countE {nm : Str} {l : Addr} {xs : List Str} {k : Str} {e : Expr} {p1 p2 p3 : Pos} {Q : Value → Shared → Prop} (F : FF env h₀ v s.heap) (hv : v nm = some (.ref l)) (held : Held env nm = true) (W : WordsL s.heap l xs)
    (he : wpAny (model P0 w) A (eval e env) (fun a s₁ => (∃ t, a = .str k t) ∧ s₁.heap = s.heap ∧ Sm s s₁ ∧ ∀ t' m, Q (.int (xs.count k : Nat) t') { s₁ with toks := m }) E s)
    (hd : (nm == ("__debug__" : Str)) = false := by decide) (hbase : attributeBase (.Name nm p1) (Str.ofString "count") env (eval (.Name nm p1) env) = eval (.Name nm p1) env := by rfl)
    (ht : backTo p3 (starEach [e] env) = [(false, eval e env)] := by rfl) (hline : (p2.endLine == p3.line) = true := by rfl) :
    wpAny (model P0 w) A (eval (.Call (.Attribute (.Name nm p1) (Str.ofString "count") p2) [e] [] p3) env) Q E s := by
  obtain ⟨vs, hl, hw⟩ := id W
  refine mB1 (T := "list") (id := "list.count") PySem.F.plainAttrs_list PySem.F.slot_list_count PySem.F.type_list_count (nmF F hv ⟨hl.isList.typeIs, fun a e => (by cases e; obtain ⟨n, ho⟩ := hl; exact ⟨_, ho, rfl⟩), wpAny_mono he (fun a s₁ h₁ => ?_) fun _ _ e => e⟩ held hd) hbase ht hline
  obtain ⟨⟨t, rfl⟩, e1, _, hQ⟩ := h₁
  exact count_words (s := s₁) (by rw [e1]; exact W) hQ
/-- nm.get(e, 0) -/
theorem getE {nm : Str} {d : Addr} {xs : DD} {k : Str} {e : Expr} {k0 : Nat} {p1 p2 p3 p4 : Pos} {Q : Value → Shared → Prop} (F : FF env h₀ v s.heap) (hv : v nm = some (.ref d)) (held : Held env nm = true) (hd : (d == sysModules) = false) (D : DictSI w s.heap d xs)
    (he : wpAny (model P0 w) A (eval e env) (fun a s₁ => (∃ t, a = .str k t) ∧ s₁.heap = s.heap ∧ ∀ t' m, Q (.int (valI0 xs k) t') { s₁ with toks := m }) E s)
    (hdb : (nm == ("__debug__" : Str)) = false := by decide) (hbase : attributeBase (.Name nm p1) (Str.ofString "get") env (eval (.Name nm p1) env) = eval (.Name nm p1) env := by rfl)
    (ht : backTo p3 (starEach [e, .Constant (.int 0) k0 p4] env) = [(false, eval e env), (false, eval (.Constant (.int 0) k0 p4) env)] := by rfl) (hline : (p2.endLine == p3.line) = true := by rfl) :
    wpAny (model P0 w) A (eval (.Call (.Attribute (.Name nm p1) (Str.ofString "get") p2) [e, .Constant (.int 0) k0 p4] [] p3) env) Q E s := by
  obtain ⟨kvs, hm, I⟩ := id D
  refine wpAny_Call_method (T := "dict") (id := "dict.get") hbase (by rw [ht]; rfl) hline PySem.F.plainAttrs_dict PySem.F.slot_dict_get PySem.F.type_dict_get (nmF F hv ⟨hm.typeIs, hm.mapOf.noDict, ?_⟩ held hdb)
  rw [ht]
  refine callWith_builtin rfl (evalArgs_plain (spliced_cons (wpAny_mono he (fun a s₁ h₁ => ?_) fun _ _ e => e)))
  obtain ⟨⟨t, rfl⟩, e1, hQ⟩ := h₁
  refine spliced_cons (wpAny_Constant_int (spliced_nil ?_))
  have hm1 : s₁.heap.DictOf (strKind P0 w) d kvs := by rw [e1]; exact hm
  refine call_meetsIn PySem.F.slot_dict_get hm1.typeIs PySem.F.entry_dict_get (PySem.F.args_dict_get_3 _ _ _) (meets_dict_get_default (strKind P0 w) d (strKind_is P0 w k t) hd _) ⟨_, hm1.mapOf, ?_⟩
  rcases I.valueAt k with ⟨n, u, a, b⟩ | ⟨a, b⟩
  · rw [b]
    have := hQ u (s₁.toks + 1 + 1)
    unfold valI0 at this
    rw [a] at this
    exact this
  · rw [b]
    have := hQ s₁.toks (s₁.toks + 1 + 1)
    unfold valI0 at this
    rw [a] at this
    exact this
/-- list(d) -/
theorem list_keys {d : Addr} {xs : DD} {Q : Value → Shared → Prop} (hh : A.handled = none) (hd : (d == sysModules) = false) (D : DictSI w s.heap d xs) (hz : xs.length ≤ 100000)
    (h : ∀ s' R, Sm s s' → Ext s.heap s'.heap → Above s.heap R → WordsL s'.heap R (xs.map (·.1)) → Q (.ref R) s') : wpAny (model P0 w) A (call (.type "list") [.ref d] []) Q E s := by
  obtain ⟨kvs, hm, I⟩ := D
  obtain ⟨ep, hat⟩ := hm.dictAt
  refine kdl_call (kdl_dict (knd := strKind P0 w) (kvs := kvs) (ep := ep) hd) hh hat (by rw [I.length, sizeLine_eq]; omega) fun h' tk acc c' hk hD hI => ?_
  refine h { s with heap := h', toks := tk } _ ⟨rfl, rfl⟩ hk (Above.size _) ⟨acc.toList, ⟨c', by rw [Array.toArray_toList]; exact hD⟩, ?_⟩
  have hl : acc.toList.length = xs.length := by rw [Array.length_toList, ← I.length]; exact hI.1
  have hv : ∀ (j : Nat) (val : Value), acc.toList[j]? = some val → ∃ t, (xs.map (·.1))[j]?.map (fun k => Value.str k t) = some val := fun j val e => by
    obtain ⟨k, x, hx, hk⟩ := hI.2 j val (by rw [← Array.getElem?_toList]; exact e)
    obtain ⟨t, rfl⟩ := Value.isStrOf_shape hk
    obtain ⟨n, u, hn, _⟩ := I.get hx
    exact ⟨t, by rw [List.getElem?_map, hn]; rfl⟩
  have gen : ∀ (vs : List Value) (ks : List Str), vs.length = ks.length → (∀ (j : Nat) (val : Value), vs[j]? = some val → ∃ t, ks[j]?.map (fun k => Value.str k t) = some val) → WordsAre vs ks := by
    intro vs
    induction vs with
    | nil => intro ks e _; cases ks with
      | nil => exact .nil
      | cons _ _ => simp at e
    | cons x r ih =>
      intro ks e hv
      cases ks with
      | nil => simp at e
      | cons k ks =>
        obtain ⟨t, ht⟩ := hv 0 x rfl
        simp at ht
        subst ht
        exact .cons k t (ih ks (by simpa using e) fun j val e => by simpa using hv (j + 1) val (by simpa using e))
  exact gen _ _ (by rw [hl, List.length_map]) hv
end
end Zd

namespace Zd
open PySem PySem.W PyProof.Rows PySem.Calls

section
variable {w : World} {A : Around} {E : Value → Shared → Prop} {s : Shared} {n : Nat} {h₀ : Heap} {v : Str → Option Value}
theorem segF {T Ch : Addr} {tl : DD} {cs : List Str} (B : Base w h₀) (hA : A.depth < 700) (hh : A.handled = none) (F : FF (LE n) h₀ v s.heap)
    (hta : v (Str.ofString "tally") = some (.ref T)) (DT : DictSI w s.heap T tl) (hTs : (T == sysModules) = false)
    (hch : v (Str.ofString "choices") = some (.ref Ch)) (W : WordsL s.heap Ch cs) (hCP : ¬ Priv (LE n) Ch) (hcl : cs.length ≤ 1000) (hcw : ∀ x ∈ cs, x.length ≤ 1000)
    (heq : (tl.map (·.2)).sum = ((cs.filter fun x => decide (x.length < 6)).length : Nat))
    {Q : Flow → Shared → Prop}
    (h : ∀ s', Sm s s' → FF (LE n) h₀ v s'.heap → Ext s.heap s'.heap → wpAny (model P0 w) A (execs ((fBody (st 24)).drop 13) (LE n)) Q E s') :
    wpAny (model P0 w) A (execs ((fBody (st 24)).drop 12) (LE n)) Q E s := by
  have B₀ : Base w s.heap := B.ext F.keep
  refine wpAny_execs_cons (wpAny_If (wpAny_isTrue_Compare1 (call1 (f := 94) B₀ (by kernel_rfl) rfl rfl (nmF F hta ⟨B₀, count_calls_spec B₀ (by omega) hh hTs DT fun s₁ t1 M₁ k₁ => ?_⟩ (by kernel_rfl)) rfl (by kernel_rfl) rfl)))
  have F₁ := F.ext k₁
  have B₁ : Base w s₁.heap := B.ext F₁.keep
  have W₁ := W.ext k₁
  obtain ⟨vc, wl, wa⟩ := id W₁
  have hvl := wordsAre_len wa
  refine callB1 (id := "len") (fun Q' q => nmB B₁ (by kernel_rfl) (by decide +kernel) q rfl (by kernel_rfl) rfl rfl) ?_
  refine CompL (ns := []) (n := vc.toArray.size) (Up := fun i v' => ∃ val, vc.toArray[i]? = some val ∧ v' (Str.ofString "word") = some val)
    (fun bad k l h => WordsAre l ((cs.take k).filter fun x => decide (x.length < 6))) F₁ (by rw [List.size_toArray, hvl, sizeLine_eq]; omega)
    (nmF F₁ hch (wpAny_mono (src_list (s := s₁) (s₁ := s₁) (X := fun _ => False) (env := LE n) hh ⟨rfl, rfl⟩ (fun _ _ e => e) wl.isList hCP (fun q => q)) (fun it s₄ q => ⟨q.1, q.2.1, SrcF.name F₁ (by decide +kernel) q.2.2⟩) fun _ _ e => e) (by kernel_rfl))
    (fun _ _ _ _ => .nil) (fun _ _ _ _ _ a _ => a) ?_ ?_
  · rintro bad Cc k l s₄ v₄ hk M₄ k₄ F₄ ⟨val, hval, e1⟩ hv₄ _ hj E''
    obtain ⟨x, t, hx, rfl⟩ := wordsAre_val wa (i := k) (v := val) (by simpa using hval)
    have hxl := hcw x (List.mem_of_getElem? hx)
    have B₄ : Base w s₄.heap := B₁.ext k₄
    refine Tests.one (wpAny_isTrue_Compare1 (callB1 (id := "len") (fun Q' q => nmB B₄ (by kernel_rfl) (by decide +kernel) q rfl (by kernel_rfl) rfl rfl) (nmF F₄ e1 (len_str (by omega) (wpAny_Constant_int (lt_int (wpAny_truthy_bool ?_)))) (by kernel_rfl))))
    have e2 : (cs.take (k + 1)).filter (fun x => decide (x.length < 6)) = (cs.take k).filter (fun x => decide (x.length < 6)) ++ (if x.length < 6 then [x] else []) := by
      rw [List.take_add_one, hx]
      simp only [Option.toList, List.filter_append, List.filter_cons, List.filter_nil, decide_eq_true_eq]
    rw [e2]
    have ec : decide ((x.length : Int) < 6) = decide (x.length < 6) := by rw [decide_eq_decide]; omega
    rw [ec]
    cases hc : decide (x.length < 6) with
    | false =>
      have hc : ¬ x.length < 6 := by simpa using hc
      simp only [Bool.false_eq_true, if_false]
      rw [if_neg hc, List.append_nil]
      exact ⟨⟨rfl, rfl⟩, fun _ _ e => e, hj⟩
    | true =>
      have hc : x.length < 6 := by simpa using hc
      simp only [if_true]
      rw [if_pos hc]
      exact nmF (s := { s₄ with toks := _ }) F₄ e1 ⟨⟨rfl, rfl⟩, fun _ _ e => e, wordsAre_snoc _ _ hj⟩ (by kernel_rfl)
  · intro bad Dl l s₄ M₄ k₄ hDl F₄ hll hj
    have e : vc.toArray.size = cs.length := by rw [List.size_toArray, hvl]
    rw [e, List.take_length] at hj
    refine len_words ⟨l, hll, hj⟩ (Nat.le_trans (List.length_filter_le ..) (by omega)) fun t' m => ne_int (wpAny_truthy_bool ?_)
    rw [heq, if_neg (by simp)]
    exact wpAny_execs_nil (h { s₄ with toks := m } ⟨M₄.gens.trans M₁.gens, M₄.os.trans M₁.os⟩ F₄ fun b o e => k₄ _ _ (k₁ _ _ e))

theorem segG {one two : Str} {t1 t2 : Tok} (B : Base w h₀) (hA : A.depth < 700) (hh : A.handled = none) (hu : A.units < 4000) (F : FF (LE n) h₀ v s.heap)
    (ho : v (Str.ofString "one") = some (.str one t1)) (htw : v (Str.ofString "two") = some (.str two t2))
    (h1 : one.cps.size ≤ 3) (h2 : two.cps.size = 2) (a1 : one.cps.all (· < 128) = true) (hok : ∀ i, i ≤ one.cps.size → okRow (rowsUpTo one two i) = true)
    (hend : (wst one two 100).1 = []) (hgo : ∀ i, i ≤ 100 → wgood (wst one two i) = true)
    {Q : Flow → Shared → Prop}
    (h : ∀ s' v' Wy Tb, Sm s s' → FF (LE n) h₀ v' s'.heap → Stay (LE n) s.heap s'.heap → (∀ y, y ≠ Str.ofString "ways" → y ≠ Str.ofString "table" → v' y = v y) →
      v' (Str.ofString "ways") = some (.ref Wy) → WordsL s'.heap Wy (wst one two 100).2 → ¬ Priv (LE n) Wy →
      v' (Str.ofString "table") = some (.ref Tb) → DictSI w s'.heap Tb ((rowsUpTo one two one.cps.size).getD two.cps.size []) → ¬ Priv (LE n) Tb → (Tb == sysModules) = false →
      wpAny (model P0 w) A (execs ((fBody (st 24)).drop 15) (LE n)) Q E s') :
    wpAny (model P0 w) A (execs ((fBody (st 24)).drop 13) (LE n)) Q E s := by
  have B₀ : Base w s.heap := B.ext F.keep
  obtain ⟨oa, hoa, hda, hca⟩ := cd271 B₀
  refine wpAny_execs_cons (wpAny_Assign_Name (callD2 (f := 271) (fun Q' q => nmG B₀ (r := .ref 271) (by kernel_rfl) q rfl (by kernel_rfl) rfl) (nmF F ho (nmF F htw ⟨oa, fd271, ⟨hoa, hda⟩, ways_spec B₀ (by omega) hh (by omega) hend hgo fun s₁ Wy M₁ k₁ hW0 hW => ?_⟩ (by kernel_rfl)) (by kernel_rfl))))
  have hWP := F.nP hW0
  have F₁ := F.ext k₁
  refine stF F₁ (by kernel_rfl) fun s₂ M₂ F₂ S₂ => ?_
  have k02 : Stay (LE n) s.heap s₂.heap := fun b o hp e => S₂ b o hp (k₁ _ _ e)
  have hW2 := hW.step (h' := s₂.heap) fun o e => S₂ _ _ hWP e
  have B₂ : Base w s₂.heap := B.ext F₂.keep
  obtain ⟨ob, hob, hdb, hcb⟩ := cd264 B₂
  refine wpAny_execs_cons (wpAny_Assign_Name (callD2 (f := 264) (fun Q' q => nmG B₂ (r := .ref 264) (by kernel_rfl) q rfl (by kernel_rfl) rfl) (nmF F₂ ((if_neg (by decide)).trans ho) (nmF F₂ ((if_neg (by decide)).trans htw) ⟨ob, fd264, ⟨hob, hdb⟩, laid_spec B₂ (by omega) hh h1 h2 a1 hok fun s₃ Tb M₃ k₃ hT0 hTs hT => ?_⟩ (by kernel_rfl)) (by kernel_rfl))))
  have hTP := F₂.nP hT0
  have F₃ := F₂.ext k₃
  refine stF F₃ (by kernel_rfl) fun s₄ M₄ F₄ S₄ => ?_
  refine h s₄ _ Wy Tb ⟨M₄.gens.trans (M₃.gens.trans (M₂.gens.trans M₁.gens)), M₄.os.trans (M₃.os.trans (M₂.os.trans M₁.os))⟩ F₄ (fun b o hp e => S₄ b o hp (k₃ _ _ (k02 b o hp e))) (fun y q1 q2 => (if_neg q2).trans (if_neg q1)) ((if_neg (by decide)).trans (if_pos rfl)) (hW2.step fun o e => S₄ _ _ hWP (k₃ _ _ e)) hWP (if_pos rfl) (hT.at fun o e => S₄ _ _ hTP e) hTP hTs
end
end Zd

namespace Zd
open PySem PySem.W PyProof.Rows PySem.Calls

def waysI (ws l : List Str) : DD := l.foldl (fun acc x => storedI acc x (ws.count x : Nat)) []
theorem waysI_take {ws : List Str} {i : Nat} {x : Str} (h : ws[i]? = some x) : waysI ws (ws.take (i + 1)) = storedI (waysI ws (ws.take i)) x (ws.count x : Nat) := foldl_snoc_take _ _ h
def weighI (tl xs : DD) : DD := xs.foldl (fun acc kn => storedI acc kn.1 (kn.2 * valI0 tl kn.1)) []
theorem weighI_take {tl xs : DD} {i : Nat} {kn : Str × Int} (h : xs[i]? = some kn) : weighI tl (xs.take (i + 1)) = storedI (weighI tl (xs.take i)) kn.1 (kn.2 * valI0 tl kn.1) := foldl_snoc_take _ _ h

section
variable {w : World} {A : Around} {E : Value → Shared → Prop} {s : Shared} {n : Nat} {h₀ : Heap} {v : Str → Option Value}
theorem segH {Wy Tb : Addr} {ws : List Str} {tb : DD} (B : Base w h₀) (hA : A.depth < 700) (hh : A.handled = none) (hu : A.units < 4000) (F : FF (LE n) h₀ v s.heap)
    (hw : v (Str.ofString "ways") = some (.ref Wy)) (W : WordsL s.heap Wy ws) (hWP : ¬ Priv (LE n) Wy) (hwl : ws.length ≤ 1000)
    (ht : v (Str.ofString "table") = some (.ref Tb)) (D : DictSI w s.heap Tb tb) (hTs : (Tb == sysModules) = false)
    (hsame : sameSI tb (waysI ws ws) = true) (hsum : (tb.map (·.2)).sum = (ws.length : Nat))
    {Q : Flow → Shared → Prop}
    (h : ∀ s', Sm s s' → FF (LE n) h₀ v s'.heap → Ext s.heap s'.heap → wpAny (model P0 w) A (execs ((fBody (st 24)).drop 16) (LE n)) Q E s') :
    wpAny (model P0 w) A (execs ((fBody (st 24)).drop 15) (LE n)) Q E s := by
  obtain ⟨vc, wl, wa⟩ := id W
  have hvl := wordsAre_len wa
  have B₀ : Base w s.heap := B.ext F.keep
  refine wpAny_execs_cons (wpAny_If (isTrue_or (wpAny_isTrue_Compare1 (nmF F ht ?_ (by kernel_rfl)))))
  refine CompD (ns := [Str.ofString "ways"]) (n := vc.toArray.size) (Up := fun i v' => ∃ val, vc.toArray[i]? = some val ∧ v' (Str.ofString "word") = some val)
    (fun bad k l h => IntsOf l (waysI ws (ws.take k))) F (by rw [List.size_toArray, hvl, sizeLine_eq]; omega)
    (nmF F hw (wpAny_mono (src_list (s := s) (s₁ := s) (X := fun _ => False) (env := LE n) hh ⟨rfl, rfl⟩ (fun _ _ e => e) wl.isList hWP (fun q => q)) (fun it s₄ q => ⟨q.1, q.2.1, SrcF.name F (by decide +kernel) q.2.2⟩) fun _ _ e => e) (by kernel_rfl))
    (fun _ _ _ _ => .nil) (fun _ _ _ _ _ a _ => a) ?_ ?_
  · rintro bad Cc k l s₄ v₄ hk M₄ k₄ F₄ ⟨val, hval, e1⟩ hv₄ _ hj E''
    obtain ⟨x, t, hx, rfl⟩ := wordsAre_val wa (i := k) (v := val) (by simpa using hval)
    refine Tests.nil ?_
    simp only [if_true]
    refine nmF F₄ e1 ⟨x, t, rfl, ?_⟩ (by kernel_rfl)
    refine countE F₄ ((hv₄ _ (by decide +kernel)).trans hw) (by kernel_rfl) (W.ext k₄) (nmF F₄ e1 ⟨⟨t, rfl⟩, rfl, ⟨rfl, rfl⟩, fun t' m => ⟨⟨rfl, rfl⟩, fun _ _ e => e, ?_⟩⟩ (by kernel_rfl))
    rw [waysI_take hx]
    exact hj.stored x _ t'
  · intro bad Dl l s₁ M₁ k₁ hDl F₁ hll hj
    have e : vc.toArray.size = ws.length := by rw [List.size_toArray, hvl]
    rw [e, List.take_length] at hj
    refine ne_SI hTs (B₀.above hDl) (D.ext k₁) ⟨l, hll, hj⟩ (by unfold cLine; omega) (wpAny_truthy_bool ?_)
    rw [hsame, if_neg (by decide)]
    have B₁ : Base w s₁.heap := B.ext F₁.keep
    refine isTrue_or (wpAny_isTrue_Compare1 (call1 (f := 94) B₁ (by kernel_rfl) rfl rfl (nmF F₁ ht ⟨B₁, count_calls_spec B₁ (by omega) hh hTs (D.ext k₁) fun s₂ t2 M₂ k₂ => ?_⟩ (by kernel_rfl)) rfl (by kernel_rfl) rfl))
    have F₂ := F₁.ext k₂
    refine callB1 (id := "len") (fun Q' q => nmB (B.ext F₂.keep) (by kernel_rfl) (by decide +kernel) q rfl (by kernel_rfl) rfl rfl) (nmF F₂ hw (len_words ((W.ext k₁).ext k₂) (by omega) fun t' m => ne_int (wpAny_truthy_bool ?_)) (by kernel_rfl))
    rw [hsum, if_neg (by simp)]
    refine isTrue_or_nil ?_
    simp only [Bool.false_eq_true, if_false]
    exact wpAny_execs_nil (h { s₂ with toks := m } ⟨M₂.gens.trans M₁.gens, M₂.os.trans M₁.os⟩ F₂ fun b o e => k₂ _ _ (k₁ _ _ e))

theorem segI {T Ch Pl Tb : Addr} {one two : Str} {t1 t2 : Tok} {f : Nat → List Int} {tl tb : DD} {cs : List Str} (B : Base w h₀) (hA : A.depth < 700) (hh : A.handled = none) (F : FF (LE n) h₀ v s.heap)
    (ho : v (Str.ofString "one") = some (.str one t1)) (htw : v (Str.ofString "two") = some (.str two t2))
    (hta : v (Str.ofString "tally") = some (.ref T)) (DT : DictSI w s.heap T tl) (hTP : ¬ Priv (LE n) T) (hTs : (T == sysModules) = false)
    (hch : v (Str.ofString "choices") = some (.ref Ch)) (W : WordsL s.heap Ch cs) (hCP : ¬ Priv (LE n) Ch)
    (hpl : v (Str.ofString "places") = some (.ref Pl)) (PP : PlacesP w (LE n) s.heap Pl f) (hf : ∀ c, (f c).length ≤ 900)
    (ht : v (Str.ofString "table") = some (.ref Tb)) (D : DictSI w s.heap Tb tb) (hTbs : (Tb == sysModules) = false) (htb : tb.length ≤ 1000)
    (hall : ∀ x ∈ one :: two :: tb.map (·.1), valI0 tl x = (cs.count x : Nat) ∧ ((endsTo f x x.cps.size).map (·.2)).sum = (cs.count x : Nat) ∧ (∀ i, i < x.cps.size → x.cps.getD i 0 = 54 ∨ x.cps.getD i 0 = 55 ∨ x.cps.getD i 0 = 57) ∧ x.cps.all (· < 128) = true)
    {Q : Flow → Shared → Prop}
    (h : ∀ s' v', Sm s s' → FF (LE n) h₀ v' s'.heap → Stay (LE n) s.heap s'.heap → (∀ y, y ≠ Str.ofString "word" → y ≠ Str.ofString "due" → v' y = v y) → wpAny (model P0 w) A (execs ((fBody (st 24)).drop 17) (LE n)) Q E s') :
    wpAny (model P0 w) A (execs ((fBody (st 24)).drop 16) (LE n)) Q E s := by
  have B₀ : Base w s.heap := B.ext F.keep
  refine wpAny_execs_cons ?_
  refine For_rule (n := (one :: two :: tb.map (·.1)).length) (P := fun i val => ∃ x t, (one :: two :: tb.map (·.1))[i]? = some x ∧ val = .str x t) (fun _ => False) (fun Z i v' h' => (∀ b, Z b → s.heap.get? b = none) ∧ (∀ y, y ≠ Str.ofString "word" → y ≠ Str.ofString "due" → v' y = v y) ∧ Stay (LE n) s.heap h') F (fun _ q => q.elim)
    (wpAny_BinOp (wpAny_List_spliced (spliced_cons (nmF F ho (spliced_cons (nmF F htw (spliced_nil ⟨by simp [sizeLine_eq], ?_⟩) (by kernel_rfl))) (by kernel_rfl)))))
    (fun Z h hZ k => ⟨hZ, fun _ _ _ => rfl, Stay.ext k⟩) (by kernel_rfl) (fun Z i v' h' h₁ _ ⟨a0, a, b⟩ k => ⟨a0, a, fun c o hp e => k c o hp (fun q => by rw [a0 c q] at e; cases e) (b c o hp e)⟩) ?_ ?_
  · have hA1 : WordsL (s.heap.push { cls := .type "list", data := .seq ([Value.str one t1, .str two t2]).toArray }) s.heap.objs.size [one, two] := ⟨_, ⟨_, Heap.get?_push_size _ rfl⟩, .cons _ _ (.cons _ _ .nil)⟩
    have k₁ := Ext.push' s.heap { cls := .type "list", data := .seq ([Value.str one t1, .str two t2]).toArray }
    have F₁ := F.ext k₁
    generalize s.heap.objs.size = A1 at hA1 ⊢
    generalize s.heap.push { cls := .type "list", data := .seq ([Value.str one t1, .str two t2]).toArray } = H1 at hA1 k₁ F₁ ⊢
    refine callT1 (T := "list") (fun Q' q => nmB (s := { s with heap := H1 }) (B.ext F₁.keep) (by kernel_rfl) (by decide +kernel) q rfl (by kernel_rfl) rfl rfl) (nmF (s := { s with heap := H1 }) F₁ ht (list_keys (s := { s with heap := H1 }) hh hTbs (D.ext k₁) (by omega) fun s₂ R M₂ k₂ hR hRW => ?_) (by kernel_rfl))
    refine add_words (hA1.ext k₂) hRW (by rw [List.length_map]; simp; omega) fun _ s₃ M₃ k₃ W₃ => ?_
    obtain ⟨vs, wl, wa⟩ := id W₃
    have hNP : ¬ Priv (LE n) s₂.heap.objs.size := (F₁.ext k₂).size_notPriv (Nat.le_refl _)
    have hvl := wordsAre_len wa
    refine wpAny_mono (src_list (s := s) (s₁ := s₃) (X := fun _ => False) (env := LE n) hh ⟨M₃.gens.trans M₂.gens, M₃.os.trans M₂.os⟩ (fun b o e => k₃ _ _ (k₂ _ _ (k₁ _ _ e))) wl.isList hNP (fun q => q)) (fun it s₄ q => ⟨q.1, q.2.1, q.2.2.imp (by rw [List.size_toArray, hvl]; rfl) fun i val _ hval => ?_⟩) fun _ _ e => e
    obtain ⟨x, t, hx, rfl⟩ := wordsAre_val wa (i := i) (v := val) (by simpa using hval)
    exact ⟨x, t, hx, rfl⟩
  · rintro Z i val s₁ v' hi ⟨x, tx, hx, rfl⟩ M₁ hZ1 hZ2 F₁ ⟨a0, a1, a2⟩ E'
    obtain ⟨p1, p2, p3, p4⟩ := hall x (List.mem_of_getElem? hx)
    have g1 : (fun y => if y = Str.ofString "word" then some (Value.str x tx) else v' y) (Str.ofString "word") = some (.str x tx) := if_pos rfl
    have g2 : ∀ y, y ≠ Str.ofString "word" → y ≠ Str.ofString "due" → (fun y => if y = Str.ofString "word" then some (Value.str x tx) else v' y) y = v y := fun y h1 h2 => (if_neg h1).trans (a1 y h1 h2)
    generalize (fun y => if y = Str.ofString "word" then some (Value.str x tx) else v' y) = v1 at F₁ g1 g2
    have W₁ := W.step (h' := s₁.heap) fun o e => a2 _ _ hCP e
    refine wpAny_execs_cons (wpAny_Assign_Name (countE F₁ ((g2 _ (by decide) (by decide)).trans hch) (by kernel_rfl) W₁ (nmF F₁ g1 ⟨⟨tx, rfl⟩, rfl, ⟨rfl, rfl⟩, fun t' m => ?_⟩ (by kernel_rfl))))
    refine stF (s := { s₁ with toks := m }) F₁ (by kernel_rfl) fun s₂ M₂ F₂ S₂ => ?_
    have k02 : Stay (LE n) s.heap s₂.heap := fun b o hp e => S₂ b o hp (a2 b o hp e)
    have f1 : (fun y => if y = Str.ofString "due" then some (Value.int (cs.count x : Nat) t') else v1 y) (Str.ofString "due") = some (.int (cs.count x : Nat) t') := if_pos rfl
    have f2 : (fun y => if y = Str.ofString "due" then some (Value.int (cs.count x : Nat) t') else v1 y) (Str.ofString "word") = some (.str x tx) := (if_neg (by decide)).trans g1
    have f3 : ∀ y, y ≠ Str.ofString "word" → y ≠ Str.ofString "due" → (fun y => if y = Str.ofString "due" then some (Value.int (cs.count x : Nat) t') else v1 y) y = v y := fun y h1 h2 => (if_neg h2).trans (g2 y h1 h2)
    generalize (fun y => if y = Str.ofString "due" then some (Value.int (cs.count x : Nat) t') else v1 y) = v2 at F₂ f1 f2 f3
    have B₂ : Base w s₂.heap := B.ext F₂.keep
    have DT₂ := DT.at (h' := s₂.heap) fun o e => k02 _ _ hTP e
    refine wpAny_execs_cons (wpAny_If (isTrue_or (wpAny_isTrue_Compare1 (getE F₂ ((f3 _ (by decide) (by decide)).trans hta) (by kernel_rfl) hTs DT₂ (nmF F₂ f2 ⟨⟨tx, rfl⟩, rfl, fun t3 m3 => nmF (s := { s₂ with toks := m3 }) F₂ f1 (ne_int (wpAny_truthy_bool ?_)) (by kernel_rfl)⟩ (by kernel_rfl))))))
    rw [p1, if_neg (by simp)]
    obtain ⟨ob, hob, hdb, hcb⟩ := cd259 B₂
    obtain ⟨pp1, pp2, _⟩ := id PP
    refine isTrue_or (wpAny_isTrue_Compare1 (callD2 (f := 259) (fun Q' q => nmG (s := { s₂ with toks := m3 }) B₂ (r := .ref 259) (by kernel_rfl) q rfl (by kernel_rfl) rfl) (nmF (s := { s₂ with toks := m3 }) F₂ ((f3 _ (by decide) (by decide)).trans hpl) (nmF (s := { s₂ with toks := m3 }) F₂ f2 ⟨ob, fd259, ⟨hob, hdb⟩, places_spec (s := { s₂ with toks := m3 }) B₂ (by omega) hh pp2 (PP.step k02).at hf p3 p4 fun s₃ t4 M₃ k₃ => ?_⟩ (by kernel_rfl)) (by kernel_rfl))))
    have F₃ := F₂.ext k₃
    refine nmF F₃ f1 (ne_int (wpAny_truthy_bool ?_)) (by kernel_rfl)
    rw [p2, if_neg (by simp)]
    refine isTrue_or_nil ?_
    simp only [Bool.false_eq_true, if_false]
    exact wpAny_execs_nil (wpAny_execs_nil ⟨⟨M₃.gens.trans (M₂.gens.trans M₁.gens), M₃.os.trans (M₂.os.trans M₁.os)⟩, fun b o hp _ e => k₃ _ _ (S₂ b o hp e), v2, F₃, a0, f3, fun b o hp e => k₃ _ _ (k02 b o hp e)⟩)
  · rintro Z s₁ v' M₁ F₁ ⟨a0, a1, a2⟩
    exact h s₁ v' M₁ F₁ a2 a1

theorem segJ {T Ch Tb : Addr} {one two : Str} {t1 t2 : Tok} {tl tb : DD} {cs : List Str} (B : Base w h₀) (hA : A.depth < 700) (hh : A.handled = none) (F : FF (LE n) h₀ v s.heap)
    (ho : v (Str.ofString "one") = some (.str one t1)) (htw : v (Str.ofString "two") = some (.str two t2))
    (hta : v (Str.ofString "tally") = some (.ref T)) (DT : DictSI w s.heap T tl) (hTs : (T == sysModules) = false)
    (hch : v (Str.ofString "choices") = some (.ref Ch)) (W : WordsL s.heap Ch cs) (hCP : ¬ Priv (LE n) Ch) (hcl : cs.length ≤ 1000)
    (ht : v (Str.ofString "table") = some (.ref Tb)) (D : DictSI w s.heap Tb tb) (hTbP : ¬ Priv (LE n) Tb) (hTbs : (Tb == sysModules) = false) (htb : tb.length ≤ 1000)
    (hval : ∀ kn ∈ tb, 0 ≤ valI0 tl kn.1 ∧ valI0 tl kn.1 ≤ 1000)
    (heq : ((cs.count one : Nat) : Int) * (cs.count two : Nat) = ((weighI tl tb).map (·.2)).sum)
    {Q : Flow → Shared → Prop} (h : ∀ s', Sm s s' → Ext h₀ s'.heap → Q (.ret (.bool true)) s') :
    wpAny (model P0 w) A (execs ((fBody (st 24)).drop 17) (LE n)) Q E s := by
  have B₀ : Base w s.heap := B.ext F.keep
  obtain ⟨kvs, Dk, Ik⟩ := id D
  refine wpAny_execs_cons ?_
  refine CompD_assign (ns := [Str.ofString "tally"]) (n := kvs.length) (fun bad i l h => IntsOf l (weighI tl (tb.take i))) F (by rw [Ik.length, sizeLine_eq]; omega)
    (srcF_items hh hTbs F Dk hTbP (by decide +kernel) (by decide +kernel) (by decide) (fun Q' q => nmF F ht q (by kernel_rfl)))
    (fun _ _ _ _ => .nil) (fun _ _ _ _ _ a _ => a) ?_ (by kernel_rfl) ?_
  · rintro bad C i l s' v' hi M' k' F' ⟨k, kt, val, hkv, e1, e2⟩ hv' _ hj E'
    obtain ⟨m, tm, hx, rfl⟩ := Ik.get hkv
    obtain ⟨q1, q2⟩ := hval _ (List.mem_of_getElem? hx)
    refine Tests.nil ?_
    simp only [if_true]
    refine nmF F' e1 ⟨k, kt, rfl, wpAny_BinOp (nmF F' e2 (getE F' ((hv' _ (by decide +kernel)).trans hta) (by kernel_rfl) hTs (DT.ext k') (nmF F' e1 ⟨⟨kt, rfl⟩, rfl, fun t3 m3 => ?_⟩ (by kernel_rfl))) (by kernel_rfl))⟩ (by kernel_rfl)
    refine mul_int (hm := .of_right (intBits_le_64 (by dsimp only at q1; omega) (by dsimp only at q2; omega))) ⟨⟨rfl, rfl⟩, fun _ _ e => e, ?_⟩
    rw [weighI_take hx]
    exact hj.stored k _ _
  · intro bad Dl l s₁ M₁ hDl F₁ k₁ hll hj
    rw [Ik.length, List.take_length] at hj
    have W₁ := W.step (h' := s₁.heap) fun o e => k₁ _ _ hCP e
    have hc1 : cs.count one ≤ 1000 := Nat.le_trans List.count_le_length hcl
    refine wpAny_execs_cons (wpAny_Return_some (wpAny_Compare1 (wpAny_BinOp ?_)))
    refine countE F₁ ((if_neg (by decide)).trans hch) (by kernel_rfl) W₁ (nmF F₁ ((if_neg (by decide)).trans ho) ⟨⟨t1, rfl⟩, rfl, ⟨rfl, rfl⟩, fun t3 m3 => ?_⟩ (by kernel_rfl))
    refine countE (s := { s₁ with toks := m3 }) F₁ ((if_neg (by decide)).trans hch) (by kernel_rfl) W₁ (nmF (s := { s₁ with toks := m3 }) F₁ ((if_neg (by decide)).trans htw) ⟨⟨t2, rfl⟩, rfl, ⟨rfl, rfl⟩, fun t4 m4 => ?_⟩ (by kernel_rfl))
    refine mul_int (hm := .of_left (intBits_le_64 (by omega) (by omega))) ?_
    have B₁ : Base w s₁.heap := B.ext F₁.keep
    refine call1 (s := { s₁ with toks := _ }) (f := 94) B₁ (by kernel_rfl) rfl rfl (nmF (s := { s₁ with toks := _ }) F₁ (if_pos rfl) ⟨B₁, count_calls_spec (s := { s₁ with toks := _ }) B₁ (by omega) hh (B₀.above hDl) ⟨l, hll, hj⟩ fun s₂ t5 M₂ k₂ => ?_⟩ (by kernel_rfl)) rfl (by kernel_rfl) rfl
    rw [heq]
    refine eq_int ?_
    rw [beq_self_eq_true]
    exact h s₂ ⟨M₂.gens.trans M₁.gens, M₂.os.trans M₁.os⟩ fun b o e => k₂ _ _ (F₁.keep _ _ e)
end
end Zd

namespace Zd
open PySem PySem.W PyProof.Rows PySem.Calls

def waysOf (one two : Str) : List Str := (wst one two 100).2
def tableOf (one two : Str) : DD := (rowsUpTo one two one.cps.size).getD two.cps.size []
/-- what two words give, by themselves -/
structure WordsOk (one two : Str) : Prop where
  h1 : one.cps.size ≤ 3
  h2 : two.cps.size = 2
  a1 : one.cps.all (· < 128) = true
  rows : ∀ i, i ≤ one.cps.size → okRow (rowsUpTo one two i) = true
  fin : (wst one two 100).1 = []
  good : ∀ i, i ≤ 100 → wgood (wst one two i) = true
  wl : (waysOf one two).length ≤ 1000
  tl : (tableOf one two).length ≤ 1000
  same : sameSI (tableOf one two) (waysI (waysOf one two) (waysOf one two)) = true
  sum : ((tableOf one two).map (·.2)).sum = ((waysOf one two).length : Nat)
  lets : ∀ x ∈ one :: two :: (tableOf one two).map (·.1), x.length ≤ 5 ∧ (∀ i, i < x.cps.size → x.cps.getD i 0 = 54 ∨ x.cps.getD i 0 = 55 ∨ x.cps.getD i 0 = 57) ∧ x.cps.all (· < 128) = true
/-- what the row gives -/
structure RowOk (ds : List Int) (one two : Str) : Prop where
  count : ((tallyTo ds 7).map (·.2)).sum = (((choicesTo ds 7).filter fun x => decide (x.length < 6)).length : Nat)
  tally : ∀ x : Str, x.length ≤ 5 → valI0 (tallyTo ds 7) x = ((choicesTo ds 7).count x : Nat)
  places : ∀ x : Str, x.length ≤ 5 → (∀ i, i < x.cps.size → x.cps.getD i 0 = 54 ∨ x.cps.getD i 0 = 55 ∨ x.cps.getD i 0 = 57) → ((endsTo (placesOf ds) x x.cps.size).map (·.2)).sum = ((choicesTo ds 7).count x : Nat)
  prod : (((choicesTo ds 7).count one : Nat) : Int) * ((choicesTo ds 7).count two : Nat) = ((weighI (tallyTo ds 7) (tableOf one two)).map (·.2)).sum

theorem law_spec {w : World} {A : Around} {E : Value → Shared → Prop} {s : Shared} {Q : Value → Shared → Prop} {a : Addr} {vs : List Value} {ns : List Int} (hP1 : ∀ x y : Int, WordsOk (oneW x) (twoW y)) (hP2 : ∀ (ds : List Int) (x y : Int), RowOk ds (oneW x) (twoW y))
    (B : Base w s.heap) (hA : A.depth < 600) (hh : A.handled = none) (hu : A.units < 3000) (hl : s.heap.IsList a vs.toArray) (hi : IntsAre vs ns) (hz : ns.length ≤ 63)
    (h : ∀ s', Sm s s' → Ext s.heap s'.heap → Q (.bool true) s') : wpAny (model P0 w) A (call (.ref 276) [.ref a] []) Q E s := by
  obtain ⟨o, ho, hdat, hcd⟩ := cd276 B
  refine enterF (fd := fd276) (body := lawB) (binds := [(Str.ofString "script", .ref a)]) B (by unfold recursionLimit; omega) ho hdat hcd fd276_body (BindsTo.of_eq rfl) rfl (fun n => rfl) (by decide +kernel) fun s₁ M₁ F₁ => ?_
  have hd : (A.deeper (callEnvC fd276 s.heap.objs.size 276)).depth < 700 := by show A.depth + 1 < 700; omega
  obtain ⟨oa, hoa, _⟩ := id hl
  have haP : ¬ Priv (LE s.heap.objs.size) a := F₁.notPriv hoa
  refine segA0 (A := A.deeper (callEnvC fd276 s.heap.objs.size 276)) (n := s.heap.objs.size) B (Nat.lt_trans hd (by decide)) hh F₁ rfl haP (hl.at fun o e => F₁.keep _ _ e) hi hz fun s₂ Dr ds v₂ M₂ F₂ hdr hDP D hdl => ?_
  refine segA1 F₂ hdr hDP D hdl fun s₃ v₃ t1 t2 M₃ F₃ hdr3 D₃ h1 h2 => ?_
  generalize ds.getD 7 0 = d7 at h1
  generalize ds.getD 8 0 = d8 at h2
  have WO := hP1 d7 d8
  have RO := hP2 ds d7 d8
  generalize oneW d7 = one at h1 WO RO
  generalize twoW d8 = two at h2 WO RO
  refine segB B hd hh F₃ fun s₄ x L T v₄ M₄ F₄ k₄ g4 hx hta H HL hLP hL0 DT hTP hTL hTs => ?_
  have D₄ : IntsL s₄.heap Dr ds := let ⟨vs, a, b⟩ := D₃; ⟨vs, a.at fun o e => k₄ _ _ hDP e, b⟩
  have hDL : Dr ≠ L := fun e => by
    obtain ⟨vs, ⟨n, ho⟩, hvi⟩ := D₄
    obtain ⟨Ts, ⟨m, ho2⟩, hTs2, _⟩ := HL
    rw [e, ho2] at ho
    have hv0 : Ts = [] := List.eq_nil_of_length_eq_zero (by rw [hTs2]; rfl)
    subst hv0
    injection ho with ho
    injection ho with _ _ ho _
    injection ho with ho _
    have : vs.toArray.size = 0 := by rw [← ho]; rfl
    rw [List.size_toArray, intsAre_len hvi, hdl] at this
    cases this
  refine segC B hd hh (by show A.units + 3 < 5000; omega) F₄ ((g4 _ (by decide) (by decide)).trans hdr3) hDP D₄ hdl hDL hx H HL hLP hL0 hta DT hTP hTL hTs fun s₅ v₅ T' M₅ F₅ k₅ g5 HL₅ hta5 DT₅ hTP5 hTL5 hTs5 => ?_
  obtain ⟨g5a, g5b, g5c, g5d⟩ := g5
  have D₅ : IntsL s₅.heap Dr ds := let ⟨vs, a, b⟩ := D₄; ⟨vs, a.at fun o e => k₅ _ _ hDP hDL e, b⟩
  have H₅ : HeadP s₅.heap (fun a => ¬ Priv (LE s.heap.objs.size) a ∧ a ≠ L) x L := H.step (fun a o p e => k₅ _ _ p.1 p.2 e) fun _ _ p => p
  refine segD B hd hh F₅ (g5b.trans hx) H₅ HL₅ fun s₆ v₆ Pl M₆ F₆ k₆ g6 hpl PP => ?_
  have D₆ : IntsL s₆.heap Dr ds := let ⟨vs, a, b⟩ := D₅; ⟨vs, a.at fun o e => k₆ _ _ hDP e, b⟩
  have DT₆ := DT₅.at (h' := s₆.heap) fun o e => k₆ _ _ hTP5 e
  refine segE B hd hh F₆ ((g6 _ (by decide)).trans (g5a.trans ((g4 _ (by decide) (by decide)).trans hdr3))) hDP D₆ hdl fun s₇ v₇ Ch M₇ F₇ k₇ g7 hch W hCP => ?_
  have DT₇ := DT₆.at (h' := s₇.heap) fun o e => k₇ _ _ hTP5 e
  have PP₇ := PP.step k₇
  have hcl : (choicesTo ds 7).length ≤ 1000 := Nat.le_trans (choices_len ds 7) (by decide)
  have hta7 : v₇ (Str.ofString "tally") = some (.ref T') := (g7 _ (by decide) (by decide)).trans ((g6 _ (by decide)).trans hta5)
  refine segF B hd hh F₇ hta7 DT₇ hTs5 hch W hCP hcl (fun x hx => Nat.le_trans (choices_words ds 7 x hx) (by decide)) RO.count fun s₈ M₈ F₈ k₈ => ?_
  have h17 : v₇ (Str.ofString "one") = some (.str one t1) := (g7 _ (by decide) (by decide)).trans ((g6 _ (by decide)).trans (g5c.trans ((g4 _ (by decide) (by decide)).trans h1)))
  have h27 : v₇ (Str.ofString "two") = some (.str two t2) := (g7 _ (by decide) (by decide)).trans ((g6 _ (by decide)).trans (g5d.trans ((g4 _ (by decide) (by decide)).trans h2)))
  refine segG B hd hh (by show A.units + 3 < 4000; omega) F₈ h17 h27 WO.h1 WO.h2 WO.a1 WO.rows WO.fin WO.good fun s₉ v₉ Wy Tb M₉ F₉ k₉ g9 hw9 W9 hWP ht9 D9 hTbP hTbs => ?_
  refine segH B hd hh (by show A.units + 3 < 4000; omega) F₉ hw9 W9 hWP WO.wl ht9 D9 hTbs WO.same WO.sum fun sA MA FA kA => ?_
  have k7A : Stay (LE s.heap.objs.size) s₇.heap sA.heap := fun b o hp e => kA _ _ (k₉ b o hp (k₈ _ _ e))
  have DTA := DT₇.at (h' := sA.heap) fun o e => k7A _ _ hTP5 e
  have WA := W.step (h' := sA.heap) fun o e => k7A _ _ hCP e
  have hall : ∀ x ∈ one :: two :: (tableOf one two).map (·.1), valI0 (tallyTo ds 7) x = ((choicesTo ds 7).count x : Nat) ∧ ((endsTo (placesOf ds) x x.cps.size).map (·.2)).sum = ((choicesTo ds 7).count x : Nat) ∧ (∀ i, i < x.cps.size → x.cps.getD i 0 = 54 ∨ x.cps.getD i 0 = 55 ∨ x.cps.getD i 0 = 57) ∧ x.cps.all (· < 128) = true :=
    fun x hx => let ⟨q1, q2, q3⟩ := WO.lets x hx; ⟨RO.tally x q1, RO.places x q1 q2, q2, q3⟩
  have h1A := (g9 _ (by decide) (by decide)).trans h17
  have h2A := (g9 _ (by decide) (by decide)).trans h27
  have htaA := (g9 _ (by decide) (by decide)).trans hta7
  have hchA := (g9 _ (by decide) (by decide)).trans hch
  refine segI B hd hh FA h1A h2A htaA DTA hTP5 hTs5 hchA WA hCP ((g9 _ (by decide) (by decide)).trans ((g7 _ (by decide) (by decide)).trans hpl)) (PP₇.step k7A) (fun c => by unfold placesOf; rw [List.length_map]; exact Nat.le_trans (idx_len ds c 7) (by decide)) ht9 (D9.ext kA) hTbs WO.tl hall fun sB vB MB FB kB gB => ?_
  have DTB := DTA.at (h' := sB.heap) fun o e => kB _ _ hTP5 e
  have WB := WA.step (h' := sB.heap) fun o e => kB _ _ hCP e
  have DB := (D9.ext kA).at (h' := sB.heap) fun o e => kB _ _ hTbP e
  refine segJ B hd hh FB ((gB _ (by decide) (by decide)).trans h1A) ((gB _ (by decide) (by decide)).trans h2A) ((gB _ (by decide) (by decide)).trans htaA) DTB hTs5 ((gB _ (by decide) (by decide)).trans hchA) WB hCP hcl ((gB _ (by decide) (by decide)).trans ht9) DB hTbP hTbs WO.tl ?_ RO.prod fun sC MC kC => ?_
  · intro kn hkn
    have := (hall kn.1 (List.mem_cons_of_mem _ (List.mem_cons_of_mem _ (List.mem_map_of_mem hkn)))).1
    have hc : (choicesTo ds 7).count kn.1 ≤ 1000 := Nat.le_trans List.count_le_length hcl
    omega
  · exact h sC (M₁.trans' (M₂.trans' (M₃.trans' (M₄.trans' (M₅.trans' (M₆.trans' (M₇.trans' (M₈.trans' (M₉.trans' (MA.trans' (MB.trans' MC))))))))))) kC
end Zd

open PySem PySem.W PyProof.Rows
namespace Zd
theorem postT (args : List WData) : PySem.Challenge.rw_zd0012_01.row.claim.post args (.bool true) args = true := by
  first
    | exact rfl
    | kernel_rfl
    | (show (WShape.has _ _ _ && _) = true; simp [OpenLaw.row, WShape.has, OpenRow.claim, WTm.holds, WTm.value])
theorem raisesF (args : List WData) (cls : ExcName) : PySem.Challenge.rw_zd0012_01.row.claim.raises args cls = false := rfl
theorem endG {w : World} {s₀ s₁ : Shared} {ns : List Int} {ws : List Value} {b : Addr} (hP1 : ∀ x y : Int, WordsOk (oneW x) (twoW y)) (hP2 : ∀ (ds : List Int) (x y : Int), RowOk ds (oneW x) (twoW y)) (Bs : Base w s₁.heap) (hIL : s₁.heap.IsList b ws.toArray) (hI : IntsAre ws ns) (hz : ns.length ≤ 63) (hg : s₁.gens = #[]) (args : List WData) :
    wpAny (model PySem.Challenge.rw_zd0012_01.row.prog w) callerA (call (.ref 276) [.ref b] [])
    (fun v s' => GoodWG PySem.Challenge.rw_zd0012_01.row.claim (classAt s₀.heap) (ExcName.means s₀.heap) args s₁ (Except.ok (Flow.ret v)) s')
    (fun e s' => GoodWG PySem.Challenge.rw_zd0012_01.row.claim (classAt s₀.heap) (ExcName.means s₀.heap) args s₁ (Except.error e) s') s₁ :=
  law_spec (vs := ws) (ns := ns) hP1 hP2 Bs (by decide) rfl (by decide) hIL hI hz fun s' M k =>
    ⟨.inl ⟨.bool true, .bool true, [], rfl, fun cls => raisesF args cls, .bool true, postT args, unshared_nil⟩, .of_keep k, M.os, .of_eq (M.gens.trans hg)⟩
theorem callAt {mg : Str → Option Value} {w : World} {h : Heap} {a : Addr} (Bs : Base w h) (g : h.Ns mainGlobals mg) (hm : mg (Str.ofString "law") = some (.ref a)) : a = 276 := by
  have h276 : mg (Str.ofString "law") = some (.ref 276) := by
    rw [g.eq_nsMap, ← Bs.g.eq_nsMap]
    kernel_rfl
  have q := h276.symm.trans hm
  injection q with q
  injection q with q
  exact q.symm
end Zd

namespace Zd
open PySem

/-! words as lists, the last letter first -/
def mk (u : List Nat) : Str := ⟨u.reverse.toArray⟩
def rv (x : Str) : List Nat := x.cps.toList.reverse
theorem mk_rv (x : Str) : mk (rv x) = x := by
  obtain ⟨a⟩ := x
  simp [mk, rv]
theorem rv_mk (u : List Nat) : rv (mk u) = u := by simp [mk, rv]
theorem mk_inj {u v : List Nat} (h : mk u = mk v) : u = v := by rw [← rv_mk u, h, rv_mk]
theorem mk_cons (a : Nat) (u : List Nat) : mk (a :: u) = mk u ++ one1 a := by
  show (⟨(a :: u).reverse.toArray⟩ : Str) = ⟨u.reverse.toArray ++ #[a]⟩
  simp
theorem mk_nil : mk [] = e0 := rfl
theorem mk_len (u : List Nat) : (mk u).length = u.length := by
  show (u.reverse.toArray).size = _
  simp
theorem rv_len (x : Str) : (rv x).length = x.length := by rw [← mk_len, mk_rv]
theorem app1_inj {x y : Str} {a b : Nat} (h : x ++ one1 a = y ++ one1 b) : x = y ∧ a = b := by
  rw [← mk_rv x, ← mk_rv y, ← mk_cons, ← mk_cons] at h
  have h := mk_inj h
  injection h with h1 h2
  exact ⟨by rw [← mk_rv x, h2, mk_rv], h1⟩

/-! sums over a table -/
def sumT (xs : DD) (f : Str → Int) : Int := (xs.map fun kn => kn.2 * f kn.1).sum
theorem sumT_nil (f : Str → Int) : sumT [] f = 0 := rfl
theorem sumT_cons (kn : Str × Int) (xs : DD) (f : Str → Int) : sumT (kn :: xs) f = kn.2 * f kn.1 + sumT xs f := by
  unfold sumT; rw [List.map_cons, List.sum_cons]
theorem sumT_append (xs ys : DD) (f : Str → Int) : sumT (xs ++ ys) f = sumT xs f + sumT ys f := by
  induction xs with
  | nil => rw [List.nil_append, sumT_nil]; omega
  | cons x r ih => rw [List.cons_append, sumT_cons, sumT_cons, ih]; omega
theorem sumT_one (xs : DD) : sumT xs (fun _ => 1) = (xs.map (·.2)).sum := by
  unfold sumT
  congr 1
  exact List.map_congr_left fun x _ => Int.mul_one _
theorem sumT_congr {xs : DD} {f g : Str → Int} (h : ∀ kn ∈ xs, f kn.1 = g kn.1) : sumT xs f = sumT xs g := by
  unfold sumT
  congr 1
  exact List.map_congr_left fun x hx => by rw [h x hx]
theorem sumT_map (xs : DD) (k : Str → Str) (f : Str → Int) : sumT (xs.map fun kn => (k kn.1, kn.2)) f = sumT xs fun w => f (k w) := by
  unfold sumT; rw [List.map_map]; rfl
theorem sumT_filter (xs : DD) (p : Str → Bool) (f : Str → Int) : sumT (xs.filter fun kn => p kn.1) f = sumT xs fun w => if p w = true then f w else 0 := by
  induction xs with
  | nil => rfl
  | cons x r ih =>
    rw [List.filter_cons, sumT_cons]
    cases h : p x.1 with
    | true => simp only [if_true]; rw [sumT_cons, ih]
    | false => simp only [Bool.false_eq_true, if_false]; rw [ih, Int.mul_zero, Int.zero_add]

abbrev keys (xs : DD) : List Str := xs.map (·.1)
abbrev ND (xs : DD) : Prop := (keys xs).Nodup
theorem any_key {xs : DD} {k : Str} : (xs.any fun kn => kn.1 = k) = true ↔ k ∈ keys xs := by
  rw [List.any_eq_true, List.mem_map]
  exact ⟨fun ⟨x, hx, e⟩ => ⟨x, hx, by simpa using e⟩, fun ⟨x, hx, e⟩ => ⟨x, hx, by simpa using e⟩⟩
theorem valI_none {xs : DD} {k : Str} (h : k ∉ keys xs) : valI xs k = none := by
  unfold valI
  rw [List.find?_eq_none.mpr fun x hx => ?_]
  · rfl
  · intro e
    exact h (List.mem_map.mpr ⟨x, hx, by simpa using e⟩)
theorem valI0_none {xs : DD} {k : Str} (h : k ∉ keys xs) : valI0 xs k = 0 := by unfold valI0; rw [valI_none h]; rfl
theorem valI_cons (x : Str × Int) (xs : DD) (k : Str) : valI (x :: xs) k = if x.1 = k then some x.2 else valI xs k := by
  unfold valI
  rw [List.find?_cons]
  by_cases h : x.1 = k
  · rw [if_pos h]; simp [h]
  · rw [if_neg h]; simp [h]
theorem map_set_id {xs : DD} {k : Str} {n : Int} (h : k ∉ keys xs) : (xs.map fun kn => if kn.1 = k then (kn.1, n) else kn) = xs := by
  conv => rhs; rw [← List.map_id xs]
  refine List.map_congr_left fun x hx => ?_
  rw [if_neg fun e => h (List.mem_map.mpr ⟨x, hx, e⟩)]; rfl
theorem keys_stored (xs : DD) (k : Str) (n : Int) : keys (storedI xs k n) = if k ∈ keys xs then keys xs else keys xs ++ [k] := by
  unfold storedI
  by_cases h : k ∈ keys xs
  · rw [if_pos h, if_pos (any_key.mpr h)]
    show (List.map _ _).map _ = _
    rw [List.map_map]
    refine List.map_congr_left fun x _ => ?_
    show (if x.1 = k then (x.1, n) else x).1 = x.1
    split <;> rfl
  · rw [if_neg h, if_neg fun e => h (any_key.mp e)]
    simp [keys]
theorem ND.stored {xs : DD} (h : ND xs) (k : Str) (n : Int) : ND (storedI xs k n) := by
  unfold ND
  rw [keys_stored]
  split
  · exact h
  · next hk => exact List.nodup_append.mpr ⟨h, by simp, fun a ha b hb e => hk (by rw [List.mem_singleton] at hb; subst hb; exact e ▸ ha)⟩
theorem sumT_set : ∀ {xs : DD} {k : Str} {n : Int} {f : Str → Int}, ND xs → k ∈ keys xs → sumT (xs.map fun kn => if kn.1 = k then (kn.1, n) else kn) f = sumT xs f + (n - valI0 xs k) * f k
  | [], k, n, f, _, h => by simp at h
  | x :: r, k, n, f, hn, h => by
    have hn' := List.nodup_cons.mp (show (x.1 :: keys r).Nodup from hn)
    rw [List.map_cons, sumT_cons, sumT_cons]
    by_cases e : x.1 = k
    · have hk : k ∉ keys r := e ▸ hn'.1
      have hv : valI0 (x :: r) k = x.2 := by unfold valI0; rw [valI_cons, if_pos e]; rfl
      rw [map_set_id hk, if_pos e, hv, Int.sub_mul, e]
      show n * f k + sumT r f = _
      omega
    · have hk : k ∈ keys r := by
        rcases List.mem_cons.mp (show k ∈ x.1 :: keys r from h) with q | q
        · exact absurd q.symm e
        · exact q
      have hv : valI0 (x :: r) k = valI0 r k := by unfold valI0; rw [valI_cons, if_neg e]
      rw [if_neg e, sumT_set hn'.2 hk, hv]
      omega
theorem sumT_stored {xs : DD} (hn : ND xs) (k : Str) (n : Int) (f : Str → Int) : sumT (storedI xs k n) f = sumT xs f + (n - valI0 xs k) * f k := by
  unfold storedI
  by_cases h : k ∈ keys xs
  · rw [if_pos (any_key.mpr h), sumT_set hn h]
  · rw [if_neg fun e => h (any_key.mp e), sumT_append, valI0_none h, sumT_cons, sumT_nil]
    show _ + (n * f k + 0) = _
    rw [Int.sub_zero]; omega
theorem sumT_addStep {xs : DD} (hn : ND xs) (kn : Str × Int) (f : Str → Int) : sumT (addStep xs kn) f = sumT xs f + kn.2 * f kn.1 := by
  unfold addStep
  cases hv : valI xs kn.1 with
  | some m =>
    show sumT (storedI xs kn.1 (m + kn.2)) f = _
    rw [sumT_stored hn]
    have : valI0 xs kn.1 = m := by unfold valI0; rw [hv]; rfl
    rw [this, show m + kn.2 - m = kn.2 by omega]
  | none =>
    show sumT (storedI xs kn.1 kn.2) f = _
    rw [sumT_stored hn]
    have : valI0 xs kn.1 = 0 := by unfold valI0; rw [hv]; rfl
    rw [this, Int.sub_zero]
theorem ND.step {xs : DD} (h : ND xs) (kn : Str × Int) : ND (addStep xs kn) := by
  unfold addStep
  split <;> exact h.stored _ _
theorem ND.add : ∀ {ys xs : DD}, ND xs → ND (addC xs ys)
  | [], _, h => h
  | y :: r, xs, h => ND.add (ys := r) (h.step y)
theorem sumT_addC : ∀ {ys xs : DD}, ND xs → ∀ f, sumT (addC xs ys) f = sumT xs f + sumT ys f
  | [], xs, _, f => by show sumT xs f = _; rw [sumT_nil]; omega
  | y :: r, xs, h, f => by
    show sumT (addC (addStep xs y) r) f = _
    rw [sumT_addC (h.step y), sumT_addStep h, sumT_cons]; omega
/-- storing fresh keys one by one is laying them on -/
theorem store_all : ∀ (l acc : DD), (keys acc ++ keys l).Nodup → l.foldl (fun acc kn => storedI acc kn.1 kn.2) acc = acc ++ l
  | [], acc, _ => by simp
  | x :: r, acc, h => by
    have hx : x.1 ∉ keys acc := fun q => (List.nodup_append.mp h).2.2 x.1 q x.1 (by simp [keys]) rfl
    have e : storedI acc x.1 x.2 = acc ++ [x] := by
      unfold storedI
      rw [if_neg fun e => hx (any_key.mp e)]
    rw [List.foldl_cons, e, store_all r (acc ++ [x]) (by simpa [keys] using h)]
    simp
theorem nd_shift {xs : DD} (h : ND xs) (c : Nat) : ((xs.map fun kn : Str × Int => (kn.1 ++ one1 c, kn.2)).map (·.1)).Nodup := by
  rw [List.map_map]
  exact List.pairwise_map.mpr ((List.pairwise_map.mp h).imp fun hab e => hab (app1_inj e).1)
theorem grownI_eq {xs : DD} (h : ND xs) (c : Nat) : grownI xs (one1 c) = xs.map fun kn => (kn.1 ++ one1 c, kn.2) := by
  have := store_all (xs.map fun kn => (kn.1 ++ one1 c, kn.2)) [] (by simpa [keys] using nd_shift h c)
  rw [List.foldl_map, List.nil_append] at this
  exact this
theorem ND.grown {xs : DD} (h : ND xs) (c : Nat) : ND (grownI xs (one1 c)) := by
  rw [grownI_eq h]
  exact nd_shift h c
theorem sumT_grown {xs : DD} (h : ND xs) (c : Nat) (f : Str → Int) : sumT (grownI xs (one1 c)) f = sumT xs fun w => f (w ++ one1 c) := by
  rw [grownI_eq h]
  exact sumT_map xs (· ++ one1 c) f
theorem valI0_sum : ∀ {xs : DD}, ND xs → ∀ k, valI0 xs k = sumT xs fun w => if w = k then 1 else 0
  | [], _, k => rfl
  | x :: r, h, k => by
    have hn' := List.nodup_cons.mp (show (x.1 :: keys r).Nodup from h)
    rw [sumT_cons]
    by_cases e : x.1 = k
    · have hk : k ∉ keys r := e ▸ hn'.1
      have hv : valI0 (x :: r) k = x.2 := by unfold valI0; rw [valI_cons, if_pos e]; rfl
      rw [hv, if_pos e, ← valI0_sum hn'.2 k, valI0_none hk]; omega
    · have hv : valI0 (x :: r) k = valI0 r k := by unfold valI0; rw [valI_cons, if_neg e]
      rw [hv, if_neg e, valI0_sum hn'.2 k]; omega
end Zd

namespace Zd
open PySem

/-- how often u (the last letter first) lies in the first p signs -/
def emb (k : Nat → Option Nat) : Nat → List Nat → Int
  | _, [] => 1
  | 0, _ :: _ => 0
  | p + 1, a :: u => emb k p (a :: u) + if k p = some a then emb k p u else 0
theorem emb_nil (k : Nat → Option Nat) (p : Nat) : emb k p [] = 1 := by cases p <;> rfl
def sig (ds : List Int) (i : Nat) : Option Nat := if ds.getD i 0 % 4 < 3 then some (abc (ds.getD i 0 % 4)) else none

theorem count_map_app (l : List Str) (c : Nat) : ∀ u : List Nat, (l.map (· ++ one1 c)).count (mk u) = match u with | [] => 0 | a :: u => if c = a then l.count (mk u) else 0 := by
  intro u
  induction l with
  | nil => cases u <;> simp
  | cons x r ih =>
    rw [List.map_cons, List.count_cons, ih]
    cases u with
    | nil =>
      have : (x ++ one1 c == mk []) = false := by
        rw [beq_eq_false_iff_ne]
        intro e
        have := congrArg Str.length e
        rw [len_app1, mk_len] at this
        cases this
      simp [this]
    | cons a u =>
      by_cases hc : c = a
      · subst hc
        have : (x ++ one1 c == mk (c :: u)) = (x == mk u) := by
          rw [Bool.eq_iff_iff, beq_iff_eq, beq_iff_eq, mk_cons]
          exact ⟨fun e => (app1_inj e).1, fun e => by rw [e]⟩
        simp only [if_true, this, List.count_cons]
      · have : (x ++ one1 c == mk (a :: u)) = false := by
          rw [beq_eq_false_iff_ne, mk_cons]
          exact fun e => hc (app1_inj e).2
        simp [this, hc]
theorem choices_emb (ds : List Int) : ∀ (i : Nat) (u : List Nat), ((choicesTo ds i).count (mk u) : Int) = emb (sig ds) i u
  | 0, [] => by rw [mk_nil]; rfl
  | 0, a :: u => by
    have : (e0 == mk (a :: u)) = false := by
      rw [beq_eq_false_iff_ne, ← mk_nil]
      intro e
      cases mk_inj e
    show ((List.count (mk (a :: u)) [e0] : Nat) : Int) = 0
    rw [List.count_cons, this]
    rfl
  | i + 1, u => by
    rw [choicesTo]
    by_cases h : ds.getD i 0 % 4 < 3
    · rw [if_pos h, List.count_append, count_map_app]
      have ih := choices_emb ds i
      cases u with
      | nil => rw [emb_nil, ← emb_nil (sig ds) i, ← ih]; rfl
      | cons a u =>
        show (((choicesTo ds i).count (mk (a :: u)) + if abc (ds.getD i 0 % 4) = a then (choicesTo ds i).count (mk u) else 0 : Nat) : Int) = emb (sig ds) i (a :: u) + if sig ds i = some a then emb (sig ds) i u else 0
        have hs : (sig ds i = some a) = (abc (ds.getD i 0 % 4) = a) := by
          unfold sig
          rw [if_pos h]
          exact propext ⟨fun e => Option.some.inj e, fun e => by rw [e]⟩
        rw [← ih, ← ih]
        simp only [hs]
        split <;> omega
    · rw [if_neg h, choices_emb ds i u]
      cases u with
      | nil => rw [emb_nil, emb_nil]
      | cons a u =>
        show _ = emb (sig ds) i (a :: u) + if sig ds i = some a then emb (sig ds) i u else 0
        have hs : sig ds i = none := by unfold sig; rw [if_neg h]
        rw [hs, if_neg (by intro e; cases e)]; omega

/-! the tally -/
theorem tallyTo_nd (ds : List Int) : ∀ i, ND (tallyTo ds i)
  | 0 => by simp [ND, keys, tallyTo]
  | i + 1 => by
    rw [tallyTo]
    split
    · exact (tallyTo_nd ds i).add
    · exact tallyTo_nd ds i
theorem filter_nd {xs : DD} (h : ND xs) (p : Str × Int → Bool) : ND (xs.filter p) := by
  unfold ND keys at h ⊢
  exact h.sublist ((List.filter_sublist).map _)
theorem tally_sum (ds : List Int) : ∀ (i : Nat) (f : Str → Int), sumT (tallyTo ds i) f = ((choicesTo ds i).map fun x => if x.length < 6 then f x else 0).sum
  | 0, f => by
    show 1 * f e0 + 0 = (if e0.length < 6 then f e0 else 0) + 0
    rw [if_pos (by decide)]; omega
  | i + 1, f => by
    rw [tallyTo, choicesTo]
    by_cases h : ds.getD i 0 % 4 < 3
    · rw [if_pos h, if_pos h]
      unfold tallyStep shortI
      have hn := tallyTo_nd ds i
      rw [sumT_addC hn, sumT_grown (filter_nd hn _)]
      rw [sumT_filter _ (fun w => decide (w.length < 5)), tally_sum ds i f, tally_sum ds i, List.map_append, List.sum_append, List.map_map]
      congr 1
      congr 1
      refine List.map_congr_left fun x _ => ?_
      show (if x.length < 6 then (if decide (x.length < 5) = true then f (x ++ one1 (abc (ds.getD i 0 % 4))) else 0) else 0) = if (x ++ one1 (abc (ds.getD i 0 % 4))).length < 6 then f (x ++ one1 (abc (ds.getD i 0 % 4))) else 0
      rw [len_app1]
      by_cases h5 : x.length < 5
      · rw [if_pos (by omega), if_pos (by simpa using h5), if_pos (by omega)]
      · rw [if_neg (show ¬ x.length + 1 < 6 by omega)]
        split
        · rw [if_neg (by simpa using h5)]
        · rfl
    · rw [if_neg h, if_neg h]
      exact tally_sum ds i f
theorem sum_count (p : Str → Bool) : ∀ l : List Str, (l.map fun x => if p x = true then (1 : Int) else 0).sum = (l.countP p : Nat)
  | [] => rfl
  | x :: r => by
    rw [List.map_cons, List.sum_cons, sum_count p r, List.countP_cons]
    split <;> simp <;> omega
theorem row_count (ds : List Int) : ((tallyTo ds 7).map (·.2)).sum = (((choicesTo ds 7).filter fun x => decide (x.length < 6)).length : Nat) := by
  rw [← sumT_one, tally_sum]
  have := sum_count (fun x => decide (x.length < 6)) (choicesTo ds 7)
  simp only [decide_eq_true_eq] at this
  rw [this, List.countP_eq_length_filter]
theorem row_tally (ds : List Int) (x : Str) (hx : x.length ≤ 5) : valI0 (tallyTo ds 7) x = ((choicesTo ds 7).count x : Nat) := by
  rw [valI0_sum (tallyTo_nd ds 7), tally_sum]
  have e : ((choicesTo ds 7).map fun y => if y.length < 6 then (if y = x then (1 : Int) else 0) else 0) = (choicesTo ds 7).map fun y => if (y == x) = true then (1 : Int) else 0 := by
    refine List.map_congr_left fun y _ => ?_
    by_cases hy : y = x
    · subst hy
      rw [if_pos (by omega), if_pos rfl, if_pos (by simp)]
    · have hb : (y == x) = false := by rw [beq_eq_false_iff_ne]; exact hy
      rw [if_neg hy, hb]
      split <;> rfl
  rw [e, sum_count]
  rfl

/-! the places -/
theorem idx_filter (ds : List Int) (c p : Nat) : ∀ i, p ≤ i → (idx ds c i).filter (fun q => decide (q < p)) = idx ds c p
  | 0, h => by
    have : p = 0 := by omega
    subst this; rfl
  | i + 1, h => by
    by_cases e : p = i + 1
    · subst e
      exact List.filter_eq_self.mpr fun q hq => by simpa using idx_lt ds c _ q hq
    · have ih := idx_filter ds c p i (by omega)
      rw [idx]
      split
      · rw [List.filter_append, ih, List.filter_cons, List.filter_nil]
        rw [if_neg (by simp; omega), List.append_nil]
      · exact ih
theorem idx_emb (ds : List Int) (c : Nat) (u : List Nat) : ∀ p, ((idx ds c p).map fun q => emb (sig ds) q u).sum = emb (sig ds) p (c :: u)
  | 0 => rfl
  | p + 1 => by
    rw [idx]
    show _ = emb (sig ds) p (c :: u) + if sig ds p = some c then emb (sig ds) p u else 0
    rw [← idx_emb ds c u p]
    by_cases h : ds.getD p 0 % 4 < 3 ∧ abc (ds.getD p 0 % 4) = c
    · have hs : sig ds p = some c := by unfold sig; rw [if_pos h.1, h.2]
      rw [if_pos h, if_pos hs, List.map_append, List.sum_append]
      simp
    · have hs : ¬ sig ds p = some c := by
        unfold sig
        split
        · next h3 => exact fun e => h ⟨h3, Option.some.inj e⟩
        · exact fun e => by cases e
      rw [if_neg h, if_neg hs]; omega
theorem below_later (ds : List Int) (ends : List (Int × Int)) (c : Nat) (u : List Nat) (he : ∀ p : Nat, p ≤ 7 → sumBelow ends (p : Int) = emb (sig ds) p u) (p : Nat) (hp : p ≤ 7) :
    sumBelow (laterOf (placesOf ds) ends c) (p : Int) = emb (sig ds) p (c :: u) := by
  unfold sumBelow laterOf placesOf
  rw [List.map_map, List.filter_map, List.map_map, ← idx_emb, ← idx_filter ds c p 7 hp]
  have e1 : ((fun e : Int × Int => decide (e.1 < (p : Int))) ∘ (fun p => (p, sumBelow ends p)) ∘ fun i : Nat => (i : Int)) = fun q : Nat => decide (q < p) := by
    funext q
    show decide ((q : Int) < (p : Int)) = _
    rw [decide_eq_decide]; omega
  rw [e1]
  congr 1
  refine List.map_congr_left fun q hq => ?_
  have hq := idx_lt ds c 7 q (List.mem_filter.mp hq).1
  exact he q (by omega)
theorem total_later (ds : List Int) (ends : List (Int × Int)) (c : Nat) (u : List Nat) (he : ∀ p : Nat, p ≤ 7 → sumBelow ends (p : Int) = emb (sig ds) p u) :
    ((laterOf (placesOf ds) ends c).map (·.2)).sum = emb (sig ds) 7 (c :: u) := by
  unfold laterOf placesOf
  rw [List.map_map, List.map_map, ← idx_emb]
  congr 1
  refine List.map_congr_left fun q hq => ?_
  have hq := idx_lt ds c 7 q hq
  exact he q (by omega)
theorem take_rev (x : Str) (i : Nat) (h : i < x.cps.size) : (x.cps.toList.take (i + 1)).reverse = x.cps.getD i 0 :: (x.cps.toList.take i).reverse := by
  rw [List.take_add_one]
  have : x.cps.toList[i]? = some (x.cps.getD i 0) := by
    rw [Array.getElem?_toList, Array.getD_eq_getD_getElem?, Array.getElem?_eq_getElem h]; rfl
  rw [this]
  simp
theorem ends_below (ds : List Int) (x : Str) : ∀ i, i ≤ x.cps.size → ∀ p : Nat, p ≤ 7 → sumBelow (endsTo (placesOf ds) x i) (p : Int) = emb (sig ds) p (x.cps.toList.take i).reverse
  | 0, _, p, _ => by
    rw [List.take_zero, List.reverse_nil, emb_nil]
    unfold endsTo sumBelow
    have : decide ((-1 : Int) < (p : Int)) = true := by rw [decide_eq_true_eq]; omega
    simp [this]
  | i + 1, h, p, hp => by
    rw [endsTo, take_rev x i h]
    exact below_later ds _ _ _ (fun q hq => ends_below ds x i (by omega) q hq) p hp
theorem row_places (ds : List Int) (x : Str) : ((endsTo (placesOf ds) x x.cps.size).map (·.2)).sum = ((choicesTo ds 7).count x : Nat) := by
  have hx := mk_rv x
  rw [← hx, choices_emb, hx]
  have hr : rv x = (x.cps.toList.take x.cps.size).reverse := by
    unfold rv
    rw [List.take_of_length_le (by simp)]
  rw [hr]
  generalize hn : x.cps.size = m
  cases m with
  | zero => rfl
  | succ m =>
    rw [endsTo, take_rev x m (by omega)]
    exact total_later ds _ _ _ fun q hq => ends_below ds x m (by omega) q hq
end Zd

namespace Zd
open PySem PySem.Builtin.Str

/-! laying two words into one, read from the back -/
def infRow (a : Nat) (u : List Nat) (F : List Nat → (List Nat → Int) → Int) : List Nat → (List Nat → Int) → Int
  | [], f => f (a :: u)
  | b :: v, f => F (b :: v) (fun w => f (a :: w)) + infRow a u F v (fun w => f (b :: w)) + if a = b then F v (fun w => f (a :: w)) else 0
def inf : List Nat → List Nat → (List Nat → Int) → Int
  | [] => fun v f => f v
  | a :: u => infRow a u (inf u)
theorem inf_nil (v : List Nat) (f : List Nat → Int) : inf [] v f = f v := rfl
theorem inf_nil_right : ∀ (u : List Nat) (f : List Nat → Int), inf u [] f = f u
  | [], _ => rfl
  | _ :: _, _ => rfl
theorem inf_cons (a b : Nat) (u v : List Nat) (f : List Nat → Int) : inf (a :: u) (b :: v) f = inf u (b :: v) (fun w => f (a :: w)) + inf (a :: u) v (fun w => f (b :: w)) + if a = b then inf u v (fun w => f (a :: w)) else 0 := rfl
theorem inf_add : ∀ (u v : List Nat) (f g : List Nat → Int), inf u v (fun w => f w + g w) = inf u v f + inf u v g
  | [], v, f, g => rfl
  | a :: u, [], f, g => rfl
  | a :: u, b :: v, f, g => by
    rw [inf_cons, inf_cons, inf_cons, inf_add u (b :: v), inf_add (a :: u) v, inf_add u v]
    split <;> omega
theorem inf_zero : ∀ (u v : List Nat), inf u v (fun _ => 0) = 0
  | [], v => rfl
  | a :: u, [] => rfl
  | a :: u, b :: v => by
    rw [inf_cons, inf_zero u (b :: v), inf_zero (a :: u) v, inf_zero u v]
    split <;> rfl
theorem inf_ite (P : Prop) [Decidable P] (u v : List Nat) (f : List Nat → Int) : inf u v (fun w => if P then f w else 0) = if P then inf u v f else 0 := by
  by_cases h : P
  · simp only [if_pos h]
  · simp only [if_neg h]; exact inf_zero u v
/-- the product of two counts -/
theorem inf_emb (k : Nat → Option Nat) : ∀ (p : Nat) (u v : List Nat), inf u v (emb k p) = emb k p u * emb k p v
  | p, [], v => by rw [inf_nil, emb_nil]; omega
  | p, a :: u, [] => by rw [inf_nil_right, emb_nil]; omega
  | 0, a :: u, b :: v => by
    rw [inf_cons]
    have e : ∀ c : Nat, (fun w => emb k 0 (c :: w)) = fun _ => (0 : Int) := fun c => rfl
    rw [e, e, inf_zero, inf_zero, inf_zero]
    show _ = (0 : Int) * 0
    split <;> rfl
  | p + 1, a :: u, b :: v => by
    have ih := inf_emb k p
    rw [inf_cons]
    have e : ∀ c : Nat, (fun w => emb k (p + 1) (c :: w)) = fun w => emb k p (c :: w) + if k p = some c then emb k p w else 0 := fun c => rfl
    rw [e, e, inf_add, inf_add, inf_add, inf_ite, inf_ite, inf_ite, ih u (b :: v), ih (a :: u) v, ih u v]
    have h := ih (a :: u) (b :: v)
    rw [inf_cons] at h
    show _ = (emb k p (a :: u) + if k p = some a then emb k p u else 0) * (emb k p (b :: v) + if k p = some b then emb k p v else 0)
    generalize emb k p (a :: u) = A at h ⊢
    generalize emb k p (b :: v) = B at h ⊢
    generalize emb k p u = x at h ⊢
    generalize emb k p v = y at h ⊢
    generalize inf u (b :: v) (fun w => emb k p (a :: w)) = I1 at h ⊢
    generalize inf (a :: u) v (fun w => emb k p (b :: w)) = I2 at h ⊢
    generalize inf u v (fun w => emb k p (a :: w)) = I3 at h ⊢
    by_cases hab : a = b
    · subst hab
      rw [if_pos rfl] at h ⊢
      by_cases ha : k p = some a
      · simp only [if_pos ha, Int.add_mul, Int.mul_add]; omega
      · simp only [if_neg ha, Int.add_zero]; omega
    · rw [if_neg hab] at h ⊢
      by_cases ha : k p = some a
      · have hb : ¬ k p = some b := fun e => hab (Option.some.inj (ha.symm.trans e))
        simp only [if_pos ha, if_neg hb, Int.add_zero, Int.add_mul]; omega
      · by_cases hb : k p = some b
        · simp only [if_neg ha, if_pos hb, Int.add_zero, Int.mul_add]; omega
        · simp only [if_neg ha, if_neg hb, Int.add_zero]; omega

/-! slices of words -/
theorem slice_to (x : Str) (j : Nat) (h : j ≤ x.cps.size) : Txt.slice x none (some (j : Int)) = ⟨(x.cps.toList.take j).toArray⟩ := by
  have h0 : strSliceIndices none (some (j : Int)) 1 x.length = strSliceIndices (some ((0 : Nat) : Int)) (some (j : Int)) 1 x.length := by
    have e : max (0 : Int) (min ((0 : Nat) : Int) (x.length : Int)) = 0 := by omega
    simp only [strSliceIndices, show ((1 : Int) > 0) = True from by simp, if_true, show ¬ (((0 : Nat) : Int) < 0) by omega, if_false, e]
  have h1 := StrLaws.sliced_plain x (Nat.zero_le j) h
  have h2 := StrLaws.strSliceIndices_plain (Nat.zero_le j) (show j ≤ x.length from h)
  unfold Txt.slice
  rw [h0, h1, List.drop_zero, Nat.sub_zero]
  split
  · next hc =>
    rw [h2] at hc
    simp at hc
    have : j = x.cps.size := hc
    subst this
    rw [List.take_of_length_le (by simp)]
  · rfl
theorem slice_tail (c : Nat) (l : List Nat) : Txt.slice ⟨(c :: l).toArray⟩ (some 1) none = ⟨l.toArray⟩ := by
  have hlen : (⟨(c :: l).toArray⟩ : Str).length = l.length + 1 := by simp [Str.length]
  have h0 : strSliceIndices (some 1) none 1 (l.length + 1) = strSliceIndices (some ((1 : Nat) : Int)) (some ((l.length + 1 : Nat) : Int)) 1 (l.length + 1) := by
    have e : max (0 : Int) (min ((l.length + 1 : Nat) : Int) ((l.length + 1 : Nat) : Int)) = ((l.length + 1 : Nat) : Int) := by omega
    simp only [strSliceIndices, show ((1 : Int) > 0) = True from by simp, if_true, show ¬ (((l.length + 1 : Nat) : Int) < 0) by omega, if_false, e]
    rfl
  have h1 := StrLaws.sliced_plain ⟨(c :: l).toArray⟩ (show 1 ≤ l.length + 1 by omega) (by rw [hlen]; exact Nat.le_refl _)
  have h2 := StrLaws.strSliceIndices_plain (show 1 ≤ l.length + 1 by omega) (Nat.le_refl (l.length + 1))
  unfold Txt.slice
  rw [hlen, h0]
  rw [hlen] at h1
  rw [h1, h2]
  have hn : ((1 : Int) == 1 && ((List.range (l.length + 1 - 1)).map fun k => 1 + k).length == l.length + 1) = false := by
    rw [List.length_map, List.length_range]
    simp
  rw [if_neg (by rw [hn]; decide)]
  simp

/-! the table's rows -/
abbrev pre (x : Str) (i : Nat) : List Nat := (x.cps.toList.take i).reverse
theorem rowsUpTo_len (one two : Str) : ∀ i, (rowsUpTo one two i).length = two.cps.size + 1
  | 0 => by unfold rowsUpTo row0; rw [List.length_map, List.length_range]
  | i + 1 => by unfold rowsUpTo; rw [rowTo_len]
theorem rowTo_at (ahead : List DD) (c : Nat) (two : Str) : ∀ (n j : Nat), j ≤ n → (rowTo ahead c two n).getD j [] = (rowTo ahead c two j).getD j []
  | n, j, h => by
    induction n with
    | zero => have : j = 0 := by omega
              subst this; rfl
    | succ n ih =>
      by_cases e : j = n + 1
      · subst e; rfl
      · rw [← ih (by omega), rowTo, List.getD_eq_getElem?_getD, List.getD_eq_getElem?_getD, List.getElem?_append_left (by rw [rowTo_len]; omega)]
theorem rowTo_zero (ahead : List DD) (c : Nat) (two : Str) : (rowTo ahead c two 0).getD 0 [] = grownI (ahead.getD 0 []) (one1 c) := rfl
theorem rowTo_succ (ahead : List DD) (c : Nat) (two : Str) (j : Nat) : (rowTo ahead c two (j + 1)).getD (j + 1) [] = madeAt ahead (rowTo ahead c two j) c two j := by
  rw [rowTo, List.getD_eq_getElem?_getD, List.getElem?_append_right (by rw [rowTo_len]; omega), rowTo_len]
  simp
/-- what an entry of a row says -/
def Says (xs : DD) (u v : List Nat) : Prop := ND xs ∧ ∀ g : Str → Int, sumT xs g = inf u v fun w => g (mk w)
theorem says_grown {xs : DD} {u v : List Nat} (h : Says xs u v) (c : Nat) : ND (grownI xs (one1 c)) ∧ ∀ g : Str → Int, sumT (grownI xs (one1 c)) g = inf u v fun w => g (mk (c :: w)) := by
  refine ⟨h.1.grown c, fun g => ?_⟩
  rw [sumT_grown h.1, h.2]
  congr 1
  funext w
  rw [mk_cons]
theorem says_made {ahead r : List DD} {c j : Nat} {two : Str} {u v : List Nat} (h1 : Says (ahead.getD (j + 1) []) u (two.cps.getD j 0 :: v)) (h2 : Says (r.getD j []) (c :: u) v) (h3 : Says (ahead.getD j []) u v) :
    Says (madeAt ahead r c two j) (c :: u) (two.cps.getD j 0 :: v) := by
  obtain ⟨a1, a2⟩ := says_grown h1 c
  obtain ⟨b1, b2⟩ := says_grown h2 (two.cps.getD j 0)
  obtain ⟨c1, c2⟩ := says_grown h3 c
  unfold madeAt
  refine ⟨?_, fun g => ?_⟩
  · dsimp only
    split
    · exact a1.add.add
    · exact a1.add
  · dsimp only
    rw [inf_cons]
    by_cases hc : c = two.cps.getD j 0
    · rw [if_pos hc, if_pos hc, sumT_addC a1.add, sumT_addC a1, a2, b2, c2]
    · rw [if_neg hc, if_neg hc, sumT_addC a1, a2, b2]; omega
theorem says_rows (one two : Str) : ∀ (i : Nat), i ≤ one.cps.size → ∀ j : Nat, j ≤ two.cps.size → Says ((rowsUpTo one two i).getD j []) (pre one i) (pre two j)
  | 0, _, j, hj => by
    have e : (rowsUpTo one two 0).getD j [] = [(mk (pre two j), 1)] := by
      unfold rowsUpTo row0
      rw [List.getD_eq_getElem?_getD, List.getElem?_map, List.getElem?_range (by omega)]
      show [(Txt.slice two none (some (j : Int)), (1 : Int))] = _
      rw [slice_to two j hj]
      simp [mk]
    rw [e]
    refine ⟨by simp [ND, keys], fun g => ?_⟩
    show 1 * g (mk (pre two j)) + 0 = g (mk (pre two j))
    omega
  | i + 1, hi, j, hj => by
    have ih := says_rows one two i (by omega)
    have key : ∀ j : Nat, j ≤ two.cps.size → Says ((rowTo (rowsUpTo one two i) (one.cps.getD i 0) two j).getD j []) (one.cps.getD i 0 :: pre one i) (pre two j) := by
      intro j
      induction j with
      | zero =>
        intro _
        rw [rowTo_zero]
        obtain ⟨a1, a2⟩ := says_grown (ih 0 (Nat.zero_le _)) (one.cps.getD i 0)
        refine ⟨a1, fun g => ?_⟩
        rw [a2]
        show inf (pre one i) [] _ = inf (_ :: pre one i) [] _
        rw [inf_nil_right, inf_nil_right]
      | succ j ihj =>
        intro hj
        have hV : pre two (j + 1) = two.cps.getD j 0 :: pre two j := take_rev two j (by omega)
        rw [rowTo_succ, hV]
        have := ih (j + 1) hj
        rw [hV] at this
        exact says_made this (ihj (by omega)) (ih j (by omega))
    have hU : pre one (i + 1) = one.cps.getD i 0 :: pre one i := take_rev one i (by omega)
    rw [hU]
    show Says ((rowTo (rowsUpTo one two i) (one.cps.getD i 0) two two.cps.size).getD j []) _ _
    rw [rowTo_at _ _ _ _ _ hj]
    exact key j hj
end Zd

namespace Zd
open PySem

theorem says_table (one two : Str) : Says (tableOf one two) (rv one) (rv two) := by
  have h := says_rows one two one.cps.size (Nat.le_refl _) two.cps.size (Nat.le_refl _)
  have e : ∀ x : Str, pre x x.cps.size = rv x := fun x => by
    unfold pre rv
    rw [List.take_of_length_le (by simp)]
  rw [e, e] at h
  exact h
theorem weighI_sum {tl tb : DD} (h : ND tb) : ((weighI tl tb).map (·.2)).sum = sumT tb (valI0 tl) := by
  have e : weighI tl tb = tb.map fun kn => (kn.1, kn.2 * valI0 tl kn.1) := by
    have := store_all (tb.map fun kn => (kn.1, kn.2 * valI0 tl kn.1)) [] (by
      have hk : keys (tb.map fun kn => (kn.1, kn.2 * valI0 tl kn.1)) = keys tb := by
        show (List.map _ _).map _ = _
        rw [List.map_map]
        rfl
      rw [hk]
      exact h)
    rw [List.foldl_map, List.nil_append] at this
    exact this
  rw [e, List.map_map]
  rfl
theorem row_ok (ds : List Int) (one two : Str) (hk : ∀ x ∈ keys (tableOf one two), x.length ≤ 5) : RowOk ds one two where
  count := row_count ds
  tally := row_tally ds
  places := fun x _ _ => row_places ds x
  prod := by
    obtain ⟨h1, h2⟩ := says_table one two
    rw [weighI_sum h1]
    have e : sumT (tableOf one two) (valI0 (tallyTo ds 7)) = sumT (tableOf one two) fun w => emb (sig ds) 7 (rv w) := by
      refine sumT_congr fun kn hkn => ?_
      rw [row_tally ds _ (hk _ (List.mem_map_of_mem hkn)), ← choices_emb, mk_rv]
    rw [e, h2]
    simp only [rv_mk]
    rw [inf_emb, ← choices_emb, ← choices_emb, mk_rv, mk_rv]

/-! bounds of the table -/
theorem rows_ind (one two : Str) (R : Nat → Nat → DD → Prop)
    (h0 : ∀ j : Nat, j ≤ two.cps.size → R 0 j [(⟨(two.cps.toList.take j).toArray⟩, 1)])
    (hg : ∀ i xs, i < one.cps.size → R i 0 xs → R (i + 1) 0 (grownI xs (one1 (one.cps.getD i 0))))
    (hm : ∀ i j (a b c : DD), i < one.cps.size → j < two.cps.size → R i (j + 1) a → R (i + 1) j b → R i j c →
      R (i + 1) (j + 1) (addC (grownI a (one1 (one.cps.getD i 0))) (grownI b (one1 (two.cps.getD j 0)))) ∧
      R (i + 1) (j + 1) (addC (addC (grownI a (one1 (one.cps.getD i 0))) (grownI b (one1 (two.cps.getD j 0)))) (grownI c (one1 (one.cps.getD i 0))))) :
    ∀ (i : Nat), i ≤ one.cps.size → ∀ j : Nat, j ≤ two.cps.size → R i j ((rowsUpTo one two i).getD j [])
  | 0, _, j, hj => by
    have e : (rowsUpTo one two 0).getD j [] = [(⟨(two.cps.toList.take j).toArray⟩, 1)] := by
      unfold rowsUpTo row0
      rw [List.getD_eq_getElem?_getD, List.getElem?_map, List.getElem?_range (by omega)]
      show [(Txt.slice two none (some (j : Int)), (1 : Int))] = _
      rw [slice_to two j hj]
    rw [e]
    exact h0 j hj
  | i + 1, hi, j, hj => by
    have ih := rows_ind one two R h0 hg hm i (by omega)
    have key : ∀ j : Nat, j ≤ two.cps.size → R (i + 1) j ((rowTo (rowsUpTo one two i) (one.cps.getD i 0) two j).getD j []) := by
      intro j
      induction j with
      | zero =>
        intro _
        rw [rowTo_zero]
        exact hg i _ (by omega) (ih 0 (Nat.zero_le _))
      | succ j ihj =>
        intro hj
        rw [rowTo_succ]
        have := hm i j _ _ _ (by omega) (by omega) (ih (j + 1) hj) (ihj (by omega)) (ih j (by omega))
        unfold madeAt
        dsimp only
        split
        · exact this.2
        · exact this.1
    show R _ _ ((rowTo (rowsUpTo one two i) (one.cps.getD i 0) two two.cps.size).getD j [])
    rw [rowTo_at _ _ _ _ _ hj]
    exact key j hj

def allK (P : Str × Int → Prop) (xs : DD) : Prop := ∀ kn ∈ xs, P kn
theorem allK.stored {P : Str × Int → Prop} {xs : DD} {k : Str} {n : Int} (h : allK P xs) (hk : P (k, n)) : allK P (storedI xs k n) := by
  unfold storedI
  split
  · intro kn hkn
    obtain ⟨x, hx, rfl⟩ := List.mem_map.mp hkn
    by_cases e : x.1 = k
    · rw [if_pos e, e]; exact hk
    · rw [if_neg e]; exact h x hx
  · intro kn hkn
    rcases List.mem_append.mp hkn with hkn | hkn
    · exact h kn hkn
    · rw [List.mem_singleton] at hkn; subst hkn; exact hk
def isL (c : Nat) : Bool := c == 54 || c == 55 || c == 57
/-- a good entry: of at most b letters, and with a positive count -/
def okE (b : Nat) (kn : Str × Int) : Prop := kn.1.length ≤ b ∧ kn.1.cps.toList.all isL = true ∧ 0 < kn.2
theorem mem_val {xs : DD} {k : Str} {m : Int} (h : valI xs k = some m) : (k, m) ∈ xs := by
  unfold valI at h
  obtain ⟨x, hx, rfl⟩ := Option.map_eq_some_iff.mp h
  have h1 := List.find?_some hx
  have h1 : x.1 = k := by simpa using h1
  subst h1
  exact List.mem_of_find?_eq_some hx
theorem okE.step {b : Nat} {xs : DD} {kn : Str × Int} (h : allK (okE b) xs) (hk : okE b kn) : allK (okE b) (addStep xs kn) := by
  unfold addStep
  cases hv : valI xs kn.1 with
  | some m =>
    have hm := h _ (mem_val hv)
    refine allK.stored h ⟨hk.1, hk.2.1, ?_⟩
    have h1 : 0 < m := hm.2.2
    have h2 := hk.2.2
    show 0 < m + kn.2
    omega
  | none => exact allK.stored h hk
theorem okE.add {b : Nat} : ∀ {ys xs : DD}, allK (okE b) xs → allK (okE b) ys → allK (okE b) (addC xs ys)
  | [], xs, h, _ => h
  | y :: r, xs, h, h' => okE.add (ys := r) (okE.step h (h' y (List.mem_cons_self ..))) fun kn hk => h' kn (List.mem_cons_of_mem _ hk)
theorem okE.grown {b : Nat} {xs : DD} {c : Nat} (h : allK (okE b) xs) (hc : isL c = true) : allK (okE (b + 1)) (grownI xs (one1 c)) := by
  unfold grownI
  have : ∀ (l acc : DD), allK (okE b) l → allK (okE (b + 1)) acc → allK (okE (b + 1)) (l.foldl (fun acc kn => storedI acc (kn.1 ++ one1 c) kn.2) acc) := by
    intro l
    induction l with
    | nil => intro acc _ h; exact h
    | cons y r ih =>
      intro acc hl ha
      obtain ⟨h1, h2, h3⟩ := hl y (List.mem_cons_self ..)
      refine ih _ (fun kn hk => hl kn (List.mem_cons_of_mem _ hk)) (allK.stored ha ⟨?_, ?_, h3⟩)
      · rw [len_app1]; omega
      · show (y.1.cps ++ #[c]).toList.all isL = true
        rw [Array.toList_append, List.all_append, h2]
        simp [hc]
  exact this xs [] h fun kn hk => by cases hk
theorem okE.mono {b c : Nat} {xs : DD} (h : allK (okE b) xs) (hbc : b ≤ c) : allK (okE c) xs := fun kn hk => let ⟨x, y, z⟩ := h kn hk; ⟨Nat.le_trans x hbc, y, z⟩
theorem rows_ok (one two : Str) (h1 : one.cps.toList.all isL = true) (h2 : two.cps.toList.all isL = true) : ∀ (i : Nat), i ≤ one.cps.size → ∀ j : Nat, j ≤ two.cps.size →
    ((rowsUpTo one two i).getD j []).length ≤ 3 ^ (i + j) ∧ allK (okE (i + j)) ((rowsUpTo one two i).getD j []) := by
  have l1 : ∀ i, i < one.cps.size → isL (one.cps.getD i 0) = true := fun i hi => by
    rw [Array.getD_eq_getD_getElem?, Array.getElem?_eq_getElem hi]
    exact List.all_eq_true.mp h1 _ (by simp)
  have l2 : ∀ i, i < two.cps.size → isL (two.cps.getD i 0) = true := fun i hi => by
    rw [Array.getD_eq_getD_getElem?, Array.getElem?_eq_getElem hi]
    exact List.all_eq_true.mp h2 _ (by simp)
  refine rows_ind one two (fun i j xs => xs.length ≤ 3 ^ (i + j) ∧ allK (okE (i + j)) xs) ?_ ?_ ?_
  · intro j hj
    refine ⟨Nat.one_le_iff_ne_zero.mpr (Nat.ne_of_gt (Nat.pow_pos (by decide))), fun kn hk => ?_⟩
    rw [List.mem_singleton] at hk
    subst hk
    refine ⟨?_, ?_, by show (0 : Int) < 1; decide⟩
    · show ((two.cps.toList.take j).toArray).size ≤ 0 + j
      rw [List.size_toArray, List.length_take]; omega
    · show ((two.cps.toList.take j).toArray.toList).all isL = true
      rw [List.all_eq_true] at h2 ⊢
      exact fun x hx => h2 x (List.mem_of_mem_take (by simpa using hx))
  · rintro i xs hi ⟨a, b⟩
    refine ⟨Nat.le_trans (grownI_len _ _) (Nat.le_trans a (Nat.pow_le_pow_right (by decide) (by omega))), ?_⟩
    have := okE.grown b (l1 i hi)
    rw [show i + 1 + 0 = i + 0 + 1 by omega]
    exact this
  · rintro i j a b c hi hj ⟨a1, a2⟩ ⟨b1, b2⟩ ⟨c1, c2⟩
    have e1 : i + (j + 1) = i + j + 1 := by omega
    have e2 : i + 1 + j = i + j + 1 := by omega
    have e3 : i + 1 + (j + 1) = i + j + 1 + 1 := by omega
    rw [e1] at a1 a2
    rw [e2] at b1 b2
    rw [e3]
    have g1 := okE.grown a2 (l1 i hi)
    have g2 := okE.grown b2 (l2 j hj)
    have g3 := okE.mono (okE.grown c2 (l1 i hi)) (show i + j + 1 ≤ i + j + 1 + 1 by omega)
    have n1 := grownI_len a (one1 (one.cps.getD i 0))
    have n2 := grownI_len b (one1 (two.cps.getD j 0))
    have n3 := grownI_len c (one1 (one.cps.getD i 0))
    have m1 := addC_len (grownI b (one1 (two.cps.getD j 0))) (grownI a (one1 (one.cps.getD i 0)))
    have m2 := addC_len (grownI c (one1 (one.cps.getD i 0))) (addC (grownI a (one1 (one.cps.getD i 0))) (grownI b (one1 (two.cps.getD j 0))))
    have p1 : 3 ^ (i + j + 1 + 1) = 3 ^ (i + j + 1) * 3 := by rw [Nat.pow_succ]
    have p2 : 3 ^ (i + j) ≤ 3 ^ (i + j + 1) := Nat.pow_le_pow_right (by decide) (Nat.le_succ _)
    exact ⟨⟨by omega, okE.add g1 g2⟩, by omega, okE.add (okE.add g1 g2) g3⟩
end Zd

namespace Zd
open PySem

/-! laying two words into one, read from the front; the letters laid so far stand in u, the last first -/
def frNil : List Nat → List Nat → (List Nat → Int) → Int
  | [], u, g => g u
  | d :: s, u, g => frNil s (d :: u) g
def frRow (c : Nat) (F : List Nat → List Nat → (List Nat → Int) → Int) : List Nat → List Nat → (List Nat → Int) → Int
  | [], u, g => F [] (c :: u) g
  | d :: s, u, g => F (d :: s) (c :: u) g + frRow c F s (d :: u) g + if c = d then F s (c :: u) g else 0
def fr : List Nat → List Nat → List Nat → (List Nat → Int) → Int
  | [] => frNil
  | c :: f => frRow c (fr f)
theorem fr_nn (u : List Nat) (g : List Nat → Int) : fr [] [] u g = g u := rfl
theorem fr_cn (c : Nat) (f u : List Nat) (g : List Nat → Int) : fr (c :: f) [] u g = fr f [] (c :: u) g := rfl
theorem fr_nc (d : Nat) (s u : List Nat) (g : List Nat → Int) : fr [] (d :: s) u g = fr [] s (d :: u) g := rfl
theorem fr_cc (c d : Nat) (f s u : List Nat) (g : List Nat → Int) : fr (c :: f) (d :: s) u g = fr f (d :: s) (c :: u) g + fr (c :: f) s (d :: u) g + if c = d then fr f s (c :: u) g else 0 := rfl
theorem fr_snoc_left (a : Nat) : ∀ (f u : List Nat) (g : List Nat → Int), fr (f ++ [a]) [] u g = fr f [] u fun w => g (a :: w)
  | [], u, g => rfl
  | c :: f, u, g => by rw [List.cons_append, fr_cn, fr_cn, fr_snoc_left a f]
theorem fr_snoc_right (b : Nat) : ∀ (s u : List Nat) (g : List Nat → Int), fr [] (s ++ [b]) u g = fr [] s u fun w => g (b :: w)
  | [], u, g => rfl
  | c :: s, u, g => by rw [List.cons_append, fr_nc, fr_nc, fr_snoc_right b s]
theorem fr_snoc (a b : Nat) : ∀ (f s u : List Nat) (g : List Nat → Int), fr (f ++ [a]) (s ++ [b]) u g =
    fr f (s ++ [b]) u (fun w => g (a :: w)) + fr (f ++ [a]) s u (fun w => g (b :: w)) + if a = b then fr f s u (fun w => g (a :: w)) else 0
  | [], [], u, g => by
    show g (b :: a :: u) + g (a :: b :: u) + (if a = b then g (a :: u) else 0) = g (a :: b :: u) + g (b :: a :: u) + if a = b then g (a :: u) else 0
    omega
  | c :: f, [], u, g => by
    have ih := fr_snoc a b f [] (c :: u) g
    rw [List.nil_append] at ih ⊢
    rw [List.cons_append, fr_cc, ih, fr_cc]
    simp only [fr_cn, fr_snoc_left]
    split <;> split <;> omega
  | [], d :: s, u, g => by
    have ih := fr_snoc a b [] s (d :: u) g
    rw [List.nil_append] at ih ⊢
    rw [List.cons_append, fr_cc, ih, fr_cc]
    simp only [fr_nc, fr_snoc_right]
    split <;> split <;> omega
  | c :: f, d :: s, u, g => by
    have i1 := fr_snoc a b f (d :: s) (c :: u) g
    have i2 := fr_snoc a b (c :: f) s (d :: u) g
    have i3 := fr_snoc a b f s (c :: u) g
    rw [List.cons_append] at i1 i2
    rw [List.cons_append, List.cons_append, fr_cc, i1, i2, i3, fr_cc, fr_cc, fr_cc]
    split <;> split <;> omega
  termination_by f s => f.length + s.length
theorem fr_inf : ∀ (p q : List Nat) (g : List Nat → Int), fr p.reverse q.reverse [] g = inf p q g
  | [], q, g => by
    rw [inf_nil, List.reverse_nil]
    have : ∀ (s u : List Nat), fr [] s u g = g (s.reverse ++ u) := by
      intro s
      induction s with
      | nil => intro u; rfl
      | cons d s ih => intro u; rw [fr_nc, ih]; simp
    rw [this]; simp
  | a :: p, [], g => by
    rw [inf_nil_right, List.reverse_cons, List.reverse_nil, fr_snoc_left]
    have := fr_inf p [] fun w => g (a :: w)
    rw [List.reverse_nil, inf_nil_right] at this
    exact this
  | a :: p, b :: q, g => by
    have i1 := fr_inf p (b :: q) fun w => g (a :: w)
    have i2 := fr_inf (a :: p) q fun w => g (b :: w)
    have i3 := fr_inf p q fun w => g (a :: w)
    rw [List.reverse_cons] at i1 i2
    rw [inf_cons, List.reverse_cons, List.reverse_cons, fr_snoc, i1, i2, i3]
  termination_by p q => p.length + q.length

/-! the stack machine, over lists -/
abbrev L3 := List Nat × List Nat × List Nat
def en (t : L3) : W3 := (mk t.1, ⟨t.2.1.toArray⟩, ⟨t.2.2.toArray⟩)
def pushL : L3 → List L3
  | (_, [], []) => []
  | (u, c :: f, []) => [(c :: u, f, [])]
  | (u, [], d :: s) => [(d :: u, [], s)]
  | (u, c :: f, d :: s) => (c :: u, f, d :: s) :: (d :: u, c :: f, s) :: if c = d then [(c :: u, f, s)] else []
def outL : L3 → List (List Nat)
  | (u, [], []) => [u]
  | _ => []
def stepL (st : List L3 × List (List Nat)) : List L3 × List (List Nat) := match st.1.getLast? with
  | none => st
  | some y => (st.1.dropLast ++ pushL y, st.2 ++ outL y)
def stk (f s : List Nat) : Nat → List L3 × List (List Nat)
  | 0 => ([([], f, s)], [])
  | n + 1 => stepL (stk f s n)
theorem empty_nil : ((⟨([] : List Nat).toArray⟩ : Str) == e0) = true := by decide
theorem empty_cons (c : Nat) (l : List Nat) : ((⟨(c :: l).toArray⟩ : Str) == e0) = false := by
  rw [beq_eq_false_iff_ne]
  intro e
  have := congrArg Str.length e
  rw [show (⟨(c :: l).toArray⟩ : Str).length = l.length + 1 by simp [Str.length]] at this
  cases this
theorem hd_cons (c : Nat) (l : List Nat) : hd0 ⟨(c :: l).toArray⟩ = one1 c := by simp [hd0, one1]
theorem tl_cons (c : Nat) (l : List Nat) : tl0 ⟨(c :: l).toArray⟩ = ⟨l.toArray⟩ := slice_tail c l
theorem one1_beq (c d : Nat) : (one1 c == one1 d) = decide (c = d) := by
  rw [Bool.eq_iff_iff, beq_iff_eq, decide_eq_true_eq]
  exact ⟨one1_inj, fun e => by rw [e]⟩
theorem push_en (t : L3) : wpush (en t) = (pushL t).map en := by
  obtain ⟨u, f, s⟩ := t
  unfold wpush en
  dsimp only
  cases f with
  | nil => cases s with
    | nil => simp [pushL, empty_nil]
    | cons d s =>
      simp only [empty_nil, empty_cons, hd_cons, tl_cons, pushL, if_true, Bool.false_eq_true, if_false, List.nil_append, ← mk_cons, List.map_cons, List.map_nil, en]
      simp
  | cons c f => cases s with
    | nil =>
      simp only [empty_nil, empty_cons, hd_cons, tl_cons, pushL, if_true, Bool.false_eq_true, if_false, ← mk_cons, List.map_cons, List.map_nil, en]
      simp
    | cons d s =>
      simp only [empty_cons, hd_cons, tl_cons, pushL, Bool.false_eq_true, if_false, ← mk_cons, one1_beq, List.map_cons, List.map_nil, en, Bool.not_false, Bool.true_and, decide_eq_true_eq]
      by_cases h : c = d
      · simp [h, en]
      · simp [h]
theorem out_en (t : L3) : wout (en t) = (outL t).map mk := by
  obtain ⟨u, f, s⟩ := t
  unfold wout en
  dsimp only
  cases f with
  | nil => cases s with
    | nil => simp [outL, empty_nil]
    | cons d s => simp [outL, empty_cons]
  | cons c f => cases s <;> simp [outL, empty_cons]
theorem step_en (st : List L3 × List (List Nat)) : wstep (st.1.map en, st.2.map mk) = ((stepL st).1.map en, (stepL st).2.map mk) := by
  unfold wstep stepL
  dsimp only
  rw [List.getLast?_map]
  cases h : st.1.getLast? with
  | none => rfl
  | some y =>
    show ((st.1.map en).dropLast ++ wpush (en y), st.2.map mk ++ wout (en y)) = _
    rw [push_en, out_en, ← List.map_dropLast, List.map_append, List.map_append]
theorem wst_en (f s : List Nat) : ∀ n, wst ⟨f.toArray⟩ ⟨s.toArray⟩ n = ((stk f s n).1.map en, (stk f s n).2.map mk)
  | 0 => rfl
  | n + 1 => by rw [wst, wst_en f s n, step_en]; rfl

/-! its weights -/
def ncRow (F : Nat → Nat) : Nat → Nat
  | 0 => F 0 + 1
  | b + 1 => 1 + F (b + 1) + ncRow F b + F b
def nc : Nat → Nat → Nat
  | 0 => fun b => b + 1
  | a + 1 => ncRow (nc a)
def wt (t : L3) : Nat := nc t.2.1.length t.2.2.length
def wts (l : List L3) : Nat := (l.map wt).sum
theorem nc_pos : ∀ a b, 1 ≤ nc a b
  | 0, b => Nat.le_add_left ..
  | a + 1, 0 => Nat.le_add_left ..
  | a + 1, b + 1 => by show 1 ≤ 1 + nc a (b + 1) + ncRow (nc a) b + nc a b; omega
theorem push_wt (t : L3) : wts (pushL t) + (outL t).length ≤ wt t ∧ wts (pushL t) + 1 ≤ wt t := by
  obtain ⟨u, f, s⟩ := t
  cases f with
  | nil => cases s with
    | nil => exact ⟨Nat.le_refl 1, Nat.le_refl 1⟩
    | cons d s => exact ⟨by show (s.length + 1 + 0) + 0 ≤ s.length + 1 + 1; omega, by show (s.length + 1 + 0) + 1 ≤ s.length + 1 + 1; omega⟩
  | cons c f => cases s with
    | nil => exact ⟨by show (nc f.length 0 + 0) + 0 ≤ nc f.length 0 + 1; omega, by show (nc f.length 0 + 0) + 1 ≤ nc f.length 0 + 1; omega⟩
    | cons d s =>
      have e : wt (u, c :: f, d :: s) = 1 + nc f.length (s.length + 1) + ncRow (nc f.length) s.length + nc f.length s.length := rfl
      have e2 : wts (pushL (u, c :: f, d :: s)) ≤ nc f.length (s.length + 1) + ncRow (nc f.length) s.length + nc f.length s.length := by
        show wts ((c :: u, f, d :: s) :: (d :: u, c :: f, s) :: if c = d then [(c :: u, f, s)] else []) ≤ _
        unfold wts
        rw [List.map_cons, List.map_cons, List.sum_cons, List.sum_cons]
        have h1 : wt (c :: u, f, d :: s) = nc f.length (s.length + 1) := rfl
        have h2 : wt (d :: u, c :: f, s) = ncRow (nc f.length) s.length := rfl
        rw [h1, h2]
        split
        · show _ + (_ + (nc f.length s.length + 0)) ≤ _
          omega
        · show _ + (_ + 0) ≤ _
          omega
      have e3 : (outL (u, c :: f, d :: s)).length = 0 := rfl
      rw [e, e3]
      omega
theorem wts_append (a b : List L3) : wts (a ++ b) = wts a + wts b := by unfold wts; rw [List.map_append, List.sum_append]
theorem len_wts : ∀ l : List L3, l.length ≤ wts l
  | [] => Nat.le_refl _
  | t :: r => by
    have h := len_wts r
    have h1 : 1 ≤ wt t := nc_pos _ _
    show r.length + 1 ≤ (wt t :: r.map wt).sum
    rw [List.sum_cons]
    show r.length + 1 ≤ wt t + wts r
    omega
def sz (t : L3) : Nat := t.1.length + t.2.1.length + t.2.2.length
theorem push_sz (t : L3) : ∀ y ∈ pushL t, sz y ≤ sz t := by
  obtain ⟨u, f, s⟩ := t
  unfold sz
  cases f with
  | nil => cases s with
    | nil => intro y h; cases h
    | cons d s => intro y h; simp [pushL] at h; subst h; simp; omega
  | cons c f => cases s with
    | nil => intro y h; simp [pushL] at h; subst h; simp; omega
    | cons d s =>
      intro y h
      simp only [pushL, List.mem_cons] at h
      rcases h with rfl | rfl | h
      · simp; omega
      · simp; omega
      · split at h
        · rw [List.mem_singleton] at h; subst h; simp; omega
        · cases h
/-- what the machine's words add up to -/
def tot (g : List Nat → Int) (st : List L3 × List (List Nat)) : Int := (st.2.map g).sum + (st.1.map fun t => fr t.2.1 t.2.2 t.1 g).sum
theorem push_tot (g : List Nat → Int) (t : L3) : ((outL t).map g).sum + ((pushL t).map fun t => fr t.2.1 t.2.2 t.1 g).sum = fr t.2.1 t.2.2 t.1 g := by
  obtain ⟨u, f, s⟩ := t
  cases f with
  | nil => cases s with
    | nil => show (g u + 0) + 0 = g u; omega
    | cons d s => show 0 + (fr [] s (d :: u) g + 0) = fr [] s (d :: u) g; omega
  | cons c f => cases s with
    | nil => show 0 + (fr f [] (c :: u) g + 0) = fr f [] (c :: u) g; omega
    | cons d s =>
      show 0 + (((c :: u, f, d :: s) :: (d :: u, c :: f, s) :: if c = d then [(c :: u, f, s)] else [] : List L3).map fun t => fr t.2.1 t.2.2 t.1 g).sum = fr (c :: f) (d :: s) u g
      rw [fr_cc, List.map_cons, List.map_cons, List.sum_cons, List.sum_cons]
      dsimp only
      split
      · show 0 + (_ + (_ + (fr f s (c :: u) g + 0))) = _
        omega
      · show 0 + (_ + (_ + 0)) = _
        omega
theorem step_facts (st : List L3 × List (List Nat)) : (st.1 = [] ∧ stepL st = st) ∨ ∃ init y, st.1 = init ++ [y] ∧ stepL st = (init ++ pushL y, st.2 ++ outL y) := by
  rcases List.eq_nil_or_concat st.1 with h | ⟨init, y, h⟩
  · left
    refine ⟨h, ?_⟩
    unfold stepL
    rw [h]
    rfl
  · right
    have h : st.1 = init ++ [y] := by simpa using h
    refine ⟨init, y, h, ?_⟩
    unfold stepL
    rw [h, List.getLast?_append]
    simp only [List.getLast?_singleton, Option.some_or]
    rw [List.dropLast_concat]
theorem st_facts (f s : List Nat) (g : List Nat → Int) : ∀ n, tot g (stk f s n) = fr f s [] g ∧ ((stk f s n).1 = [] ∨ wts (stk f s n).1 + n ≤ nc f.length s.length) ∧
    wts (stk f s n).1 + (stk f s n).2.length ≤ nc f.length s.length ∧ ∀ y ∈ (stk f s n).1, sz y ≤ f.length + s.length
  | 0 => by
    refine ⟨?_, .inr ?_, ?_, ?_⟩
    · show 0 + (fr f s [] g + 0) = _; omega
    · show (nc f.length s.length + 0) + 0 ≤ _; omega
    · show (nc f.length s.length + 0) + 0 ≤ _; omega
    · intro y hy
      rw [stk, List.mem_singleton] at hy
      subst hy
      show 0 + f.length + s.length ≤ _; omega
  | n + 1 => by
    obtain ⟨i1, i2, i3, i4⟩ := st_facts f s g n
    show tot g (stepL (stk f s n)) = _ ∧ ((stepL (stk f s n)).1 = [] ∨ wts (stepL (stk f s n)).1 + (n + 1) ≤ _) ∧ _ ∧ ∀ y ∈ (stepL (stk f s n)).1, _
    rcases step_facts (stk f s n) with ⟨h1, h2⟩ | ⟨init, y, h1, h2⟩
    · show tot g (stepL (stk f s n)) = _ ∧ ((stepL (stk f s n)).1 = [] ∨ wts (stepL (stk f s n)).1 + (n + 1) ≤ _) ∧ wts (stepL (stk f s n)).1 + (stepL (stk f s n)).2.length ≤ _ ∧ ∀ y ∈ (stepL (stk f s n)).1, _
      rw [h2]
      exact ⟨i1, .inl h1, i3, i4⟩
    · show tot g (stepL (stk f s n)) = _ ∧ ((stepL (stk f s n)).1 = [] ∨ wts (stepL (stk f s n)).1 + (n + 1) ≤ _) ∧ wts (stepL (stk f s n)).1 + (stepL (stk f s n)).2.length ≤ _ ∧ ∀ y ∈ (stepL (stk f s n)).1, _
      rw [h2]
      obtain ⟨p1, p2⟩ := push_wt y
      have hw : wts (stk f s n).1 = wts init + wt y := by rw [h1, wts_append]; rfl
      refine ⟨?_, .inr ?_, ?_, ?_⟩
      · rw [← i1]
        unfold tot
        rw [h1]
        simp only [List.map_append, List.sum_append, List.map_cons, List.map_nil, List.sum_cons, List.sum_nil]
        have := push_tot g y
        omega
      · dsimp only
        rw [wts_append]
        rcases i2 with i2 | i2
        · rw [h1] at i2; simp at i2
        · omega
      · dsimp only
        rw [wts_append, List.length_append]; omega
      · intro z hz
        rcases List.mem_append.mp hz with hz | hz
        · exact i4 z (by rw [h1]; exact List.mem_append_left _ hz)
        · exact Nat.le_trans (push_sz y z hz) (i4 y (by rw [h1]; simp))
end Zd

namespace Zd
open PySem

theorem valI_append_single (xs : DD) (k x : Str) (n : Int) (h : k ∉ keys xs) : valI (xs ++ [(k, n)]) x = if k = x then some n else valI xs x := by
  induction xs with
  | nil => rw [List.nil_append, valI_cons]
  | cons y r ih =>
    have hk : ¬ y.1 = k ∧ k ∉ keys r := by
      constructor
      · intro e; exact h (by rw [← e]; simp [keys])
      · intro q; exact h (List.mem_cons_of_mem _ q)
    rw [List.cons_append, valI_cons, valI_cons, ih hk.2]
    by_cases e : y.1 = x
    · rw [if_pos e, if_pos e, if_neg fun q => hk.1 (e.trans q.symm)]
    · rw [if_neg e, if_neg e]
theorem valI_set (k x : Str) (n : Int) : ∀ xs : DD, k ∈ keys xs → valI (xs.map fun kn => if kn.1 = k then (kn.1, n) else kn) x = if k = x then some n else valI xs x
  | [], h => by simp at h
  | y :: r, h => by
    rw [List.map_cons, valI_cons, valI_cons]
    by_cases e : y.1 = k
    · rw [if_pos e]
      dsimp only
      by_cases q : k = x
      · rw [if_pos (e.trans q), if_pos q]
      · rw [if_neg fun z => q (e.symm.trans z), if_neg q, if_neg fun z => q (e.symm.trans z)]
        by_cases hk : k ∈ keys r
        · rw [valI_set k x n r hk, if_neg q]
        · rw [map_set_id hk]
    · have hk : k ∈ keys r := by
        rcases List.mem_cons.mp (show k ∈ y.1 :: keys r from h) with q | q
        · exact absurd q.symm e
        · exact q
      rw [if_neg e, valI_set k x n r hk]
      by_cases q : k = x
      · rw [if_pos q, if_pos q, if_neg fun z => e (z.trans q.symm)]
      · rw [if_neg q, if_neg q]
theorem valI_stored (xs : DD) (k x : Str) (n : Int) : valI (storedI xs k n) x = if k = x then some n else valI xs x := by
  unfold storedI
  by_cases h : k ∈ keys xs
  · rw [if_pos (any_key.mpr h), valI_set k x n xs h]
  · rw [if_neg fun e => h (any_key.mp e), valI_append_single xs k x n h]
theorem waysI_gen (ws : List Str) (x : Str) : ∀ (l : List Str) (acc : DD), valI (l.foldl (fun acc x => storedI acc x (ws.count x : Nat)) acc) x = if x ∈ l then some ((ws.count x : Nat) : Int) else valI acc x
  | [], acc => by simp
  | y :: r, acc => by
    rw [List.foldl_cons, waysI_gen ws x r, valI_stored]
    by_cases h : x ∈ r
    · rw [if_pos h, if_pos (List.mem_cons_of_mem _ h)]
    · rw [if_neg h]
      by_cases e : y = x
      · subst e; rw [if_pos rfl, if_pos (List.mem_cons_self ..)]
      · rw [if_neg e, if_neg fun q => (List.mem_cons.mp q).elim (fun z => e z.symm) h]
theorem waysI_nd (ws : List Str) : ∀ (l : List Str) (acc : DD), ND acc → ND (l.foldl (fun acc x => storedI acc x (ws.count x : Nat)) acc)
  | [], _, h => h
  | y :: r, acc, h => waysI_nd ws r _ (h.stored _ _)
theorem mem_keys {xs : DD} {x : Str} : x ∈ keys xs ↔ (valI xs x).isSome = true := by
  constructor
  · intro h
    obtain ⟨kn, hk, rfl⟩ := List.mem_map.mp h
    unfold valI
    rw [Option.isSome_map, List.find?_isSome]
    exact ⟨kn, hk, by simp⟩
  · intro h
    obtain ⟨m, hm⟩ := Option.isSome_iff_exists.mp h
    exact List.mem_map.mpr ⟨_, mem_val hm, rfl⟩
theorem valI_mem {xs : DD} (h : ND xs) {kn : Str × Int} (hk : kn ∈ xs) : valI xs kn.1 = some kn.2 := by
  induction xs with
  | nil => cases hk
  | cons y r ih =>
    have hn := List.nodup_cons.mp (show (y.1 :: keys r).Nodup from h)
    rw [valI_cons]
    rcases List.mem_cons.mp hk with rfl | hk
    · rw [if_pos rfl]
    · rw [if_neg fun e => hn.1 (by rw [e]; exact List.mem_map_of_mem hk), ih hn.2 hk]

theorem isL_iff {c : Nat} : isL c = true ↔ c = 54 ∨ c = 55 ∨ c = 57 := by
  unfold isL
  simp [or_assoc]
theorem word_facts {x : Str} (h : x.cps.toList.all isL = true) : (∀ i, i < x.cps.size → x.cps.getD i 0 = 54 ∨ x.cps.getD i 0 = 55 ∨ x.cps.getD i 0 = 57) ∧ x.cps.all (· < 128) = true := by
  have h := List.all_eq_true.mp h
  refine ⟨fun i hi => ?_, ?_⟩
  · rw [Array.getD_eq_getD_getElem?, Array.getElem?_eq_getElem hi]
    exact isL_iff.mp (h _ (by simp))
  · rw [← Array.all_toList, List.all_eq_true]
    intro c hc
    have := isL_iff.mp (h c hc)
    simp; omega
theorem nc_small : ∀ a : Nat, a < 4 → nc a 2 ≤ 64 := by decide
theorem words_ok (one two : Str) (h1 : one.cps.size ≤ 3) (h2 : two.cps.size = 2) (l1 : one.cps.toList.all isL = true) (l2 : two.cps.toList.all isL = true) : WordsOk one two := by
  have rows := rows_ok one two l1 l2
  have hf : one.cps.toList.length = one.cps.size := by simp
  have hs : two.cps.toList.length = two.cps.size := by simp
  have hw : nc one.cps.toList.length two.cps.toList.length ≤ 64 := by
    rw [hs, h2, hf]; exact nc_small _ (by omega)
  have en1 : ∀ n, wst one two n = ((stk one.cps.toList two.cps.toList n).1.map en, (stk one.cps.toList two.cps.toList n).2.map mk) := fun n => by
    have := wst_en one.cps.toList two.cps.toList n
    rwa [Array.toArray_toList, Array.toArray_toList] at this
  have facts := fun n => st_facts one.cps.toList two.cps.toList (fun _ => 0) n
  have hend : (stk one.cps.toList two.cps.toList 100).1 = [] := by
    rcases (facts 100).2.1 with h | h
    · exact h
    · omega
  have hsum : ∀ g : Str → Int, sumT (tableOf one two) g = ((waysOf one two).map g).sum := fun g => by
    rw [(says_table one two).2]
    have h := (st_facts one.cps.toList two.cps.toList (fun w => g (mk w)) 100).1
    unfold tot at h
    rw [hend] at h
    have e : fr one.cps.toList two.cps.toList [] (fun w => g (mk w)) = inf (rv one) (rv two) fun w => g (mk w) := by
      rw [← fr_inf]
      unfold rv
      rw [List.reverse_reverse, List.reverse_reverse]
    rw [← e, ← h]
    unfold waysOf
    rw [en1, List.map_map]
    show _ + 0 = _
    rw [Int.add_zero]
    rfl
  have hwl : (waysOf one two).length ≤ 64 := by
    unfold waysOf
    rw [en1]
    show ((stk one.cps.toList two.cps.toList 100).2.map mk).length ≤ 64
    rw [List.length_map]
    have := (facts 100).2.2.1
    omega
  have hnd : ND (tableOf one two) := (says_table one two).1
  have htab := rows one.cps.size (Nat.le_refl _) two.cps.size (Nat.le_refl _)
  have h5 : one.cps.size + two.cps.size ≤ 5 := by omega
  have hcount : ∀ x, valI0 (tableOf one two) x = ((waysOf one two).count x : Nat) := fun x => by
    rw [valI0_sum hnd, hsum]
    have := sum_count (fun y => y == x) (waysOf one two)
    simp only [beq_iff_eq] at this
    rw [this]
    rfl
  have hvtab : ∀ kn ∈ tableOf one two, kn.2 = ((waysOf one two).count kn.1 : Nat) := fun kn hk => by
    rw [← hcount]
    unfold valI0
    rw [valI_mem hnd hk]
    rfl
  have hmem : ∀ x, x ∈ keys (tableOf one two) ↔ x ∈ waysOf one two := fun x => by
    constructor
    · intro h
      obtain ⟨kn, hk, rfl⟩ := List.mem_map.mp h
      have h1 := hvtab kn hk
      have h2 := (htab.2 kn hk).2.2
      exact List.count_pos_iff.mp (by omega)
    · intro h
      have h1 := List.count_pos_iff.mpr h
      have h2 := hcount x
      rw [mem_keys]
      unfold valI0 at h2
      cases hv : valI (tableOf one two) x with
      | none => rw [hv] at h2; simp at h2; omega
      | some m => rfl
  have hwv : ∀ x, valI (waysI (waysOf one two) (waysOf one two)) x = if x ∈ waysOf one two then some (((waysOf one two).count x : Nat) : Int) else none := fun x => by
    have := waysI_gen (waysOf one two) x (waysOf one two) []
    exact this
  exact {
    h1 := h1
    h2 := h2
    a1 := (word_facts l1).2
    rows := fun i hi => by
      unfold okRow
      refine List.all_eq_true.mpr fun xs hx => ?_
      obtain ⟨j, hj, rfl⟩ := List.getElem_of_mem hx
      have hjl : j ≤ two.cps.size := by rw [rowsUpTo_len] at hj; omega
      have e : (rowsUpTo one two i)[j] = (rowsUpTo one two i).getD j [] := by rw [List.getD_eq_getElem?_getD, List.getElem?_eq_getElem hj]; rfl
      rw [e]
      obtain ⟨r1, r2⟩ := rows i hi j hjl
      have hp : 3 ^ (i + j) ≤ 3 ^ 5 := Nat.pow_le_pow_right (by decide) (by omega)
      have hp : 3 ^ (i + j) ≤ 243 := hp
      rw [Bool.and_eq_true, decide_eq_true_eq]
      refine ⟨by omega, List.all_eq_true.mpr fun kn hk => ?_⟩
      have := (r2 kn hk).1
      rw [decide_eq_true_eq]; omega
    fin := by rw [en1, hend]; rfl
    good := fun i _ => by
      obtain ⟨_, _, f3, f4⟩ := facts i
      have f5 := len_wts (stk one.cps.toList two.cps.toList i).1
      unfold wgood
      rw [en1]
      dsimp only
      rw [List.length_map, List.length_map, Bool.and_eq_true, Bool.and_eq_true, decide_eq_true_eq, decide_eq_true_eq]
      refine ⟨⟨by omega, by omega⟩, List.all_eq_true.mpr fun y hy => ?_⟩
      obtain ⟨t, ht, rfl⟩ := List.mem_map.mp hy
      have f6 := f4 t ht
      unfold sz at f6
      rw [decide_eq_true_eq]
      unfold en
      dsimp only
      rw [mk_len]
      have e1 : ∀ l : List Nat, (⟨l.toArray⟩ : Str).length = l.length := fun l => by simp [Str.length]
      rw [e1, e1]
      omega
    wl := by omega
    tl := Nat.le_trans htab.1 (Nat.le_trans (Nat.pow_le_pow_right (by decide) h5) (by decide))
    same := by
      unfold sameSI
      rw [Bool.and_eq_true, beq_iff_eq]
      constructor
      · have hp := (List.perm_ext_iff_of_nodup hnd (waysI_nd (waysOf one two) (waysOf one two) [] (by simp [ND, keys]))).mpr fun x => by
          rw [hmem, mem_keys]
          show _ ↔ (valI (waysI (waysOf one two) (waysOf one two)) x).isSome = true
          rw [hwv]
          by_cases h : x ∈ waysOf one two
          · rw [if_pos h]; simp [h]
          · rw [if_neg h]; simp [h]
        have := hp.length_eq
        rw [List.length_map, List.length_map] at this
        exact this
      · refine List.all_eq_true.mpr fun kn hk => ?_
        rw [hwv, if_pos ((hmem _).mp (List.mem_map_of_mem hk)), ← hvtab kn hk]
        exact beq_self_eq_true _
    sum := by
      rw [← sumT_one, hsum]
      have := sum_count (fun _ => true) (waysOf one two)
      simp only [if_true] at this
      rw [this, List.countP_true]
    lets := fun x hx => by
      have hall : x.length ≤ 5 ∧ x.cps.toList.all isL = true := by
        rcases List.mem_cons.mp hx with rfl | hx
        · exact ⟨by show x.cps.size ≤ 5; omega, l1⟩
        · rcases List.mem_cons.mp hx with rfl | hx
          · exact ⟨by show x.cps.size ≤ 5; omega, l2⟩
          · obtain ⟨kn, hk, rfl⟩ := List.mem_map.mp hx
            have := htab.2 kn hk
            exact ⟨Nat.le_trans this.1 h5, this.2.1⟩
      exact ⟨hall.1, word_facts hall.2⟩ }

theorem abc_isL {k : Int} (h0 : 0 ≤ k) (h3 : k < 3) : isL (abc k) = true := by
  obtain ⟨n, hn, rfl⟩ := abc_nat h0 h3
  have : ∀ n : Nat, n < 3 → isL (abc (n : Int)) = true := by decide
  exact this n hn
theorem plain1 (x y : Int) : WordsOk (oneW x) (twoW y) := by
  have hx : ∃ a b c : Nat, isL a = true ∧ isL b = true ∧ isL c = true ∧ ∃ j : Nat, 1 ≤ j ∧ j ≤ 3 ∧ oneW x = ⟨([a, b, c].take j).toArray⟩ := by
    refine ⟨abc (x / 3 % 3), abc (x / 3 / 3 % 3), abc (x / 3 / 9 % 3), abc_isL (by omega) (by omega), abc_isL (by omega) (by omega), abc_isL (by omega) (by omega), (1 + x % 3).toNat, by omega, by omega, ?_⟩
    unfold oneW
    have e : 1 + x % 3 = (((1 + x % 3).toNat : Nat) : Int) := by omega
    rw [e, slice_to _ _ (by show (1 + x % 3).toNat ≤ 3; omega)]
    rfl
  obtain ⟨a, b, c, ha, hb, hc, j, j1, j3, e⟩ := hx
  have l1 : (oneW x).cps.toList.all isL = true := by
    rw [e]
    show ([a, b, c].take j).all isL = true
    refine List.all_eq_true.mpr fun z hz => ?_
    have := List.mem_of_mem_take hz
    simp at this
    rcases this with rfl | rfl | rfl <;> assumption
  refine words_ok _ _ ?_ rfl l1 ?_
  · rw [e]
    show ([a, b, c].take j).toArray.size ≤ 3
    rw [List.size_toArray, List.length_take]
    exact Nat.min_le_right ..
  · show [abc (y % 3), abc (y / 3 % 3)].all isL = true
    simp [abc_isL (show 0 ≤ y % 3 by omega) (by omega), abc_isL (show 0 ≤ y / 3 % 3 by omega) (by omega)]
theorem plain2 (ds : List Int) (x y : Int) : RowOk ds (oneW x) (twoW y) :=
  row_ok ds _ _ fun z hz => ((plain1 x y).lets z (List.mem_cons_of_mem _ (List.mem_cons_of_mem _ hz))).1
end Zd

namespace Zd
open PySem PySem.W PyProof.Rows
abbrev NN : Nat := 12000
def W0 (w : World) : World := w.withFollow "special-get-raises" false
noncomputable def fencedQ (w : World) : Option Shared := (Fast.tw10274390034422433532 Fast.tw14364793385576792824 (opening P0) w NN (Fast.tw1435165496053646825 (opening P0)).1 (Fast.tw1435165496053646825 (opening P0)).2).bind (Fast.tw14289696077712309145 P0)
theorem fencedQ_eq (w : World) : fencedQ w = fencedOpening treeTable P0 w NN := by
  unfold fencedQ fencedOpening
  rw [← Fast.te10274390034422433532, ← Fast.te14364793385576792824, ← Fast.te1435165496053646825, ← Fast.te14289696077712309145]
abbrev ann0 : Option Value := some (.ref 6)
noncomputable abbrev goQ (w : World) (n : Nat) (x : SharedT × Thread) : Option (SharedT × Thread) := runQ P0 w 28 ann0 n x
noncomputable def XO (w : World) : Option (SharedT × Thread) := (fencedQ w).bind fun s₀ => (startT s₀).bind fun S => goQ w 2465 (S, topStub P0)
theorem op_facts : ∀ w : World, (fencedQ w).map (fun s₀ => (s₀.heap.isNs mainGlobals && s₀.gens.size == 0, s₀.heap.objs.size, s₀.heap.nsMap mainGlobals "__annotations__")) = some (true, 28, ann0) := fun w => by kernel_rfl
end Zd

namespace Zd
open PySem PySem.W PyProof.Rows
def setJ (b : Bool) (j ep mask mv : Nat) : Obj := ⟨.type "set", none, .set (c9ents j) ep ⟨mask, c9plc j, #[], 0, b, mv, true⟩, #[]⟩
def itJ (j : Nat) : Obj := ⟨.type "list_iterator", none, .fields #[.ref 69, .int j 0], #[]⟩
def treeOf (f : Nat → Obj) (n : Nat) : Nat → Nat → Nat → BT
  | 0, _, _ => .nil
  | k + 1, a, b => match Nat.blt b n with
    | true => .node (f b) (treeOf f n k (2 * a) (a + b)) (treeOf f n k (2 * a) (2 * a + b))
    | false => .nil
def lst69 : Obj := ⟨.type "list", none, .seq (((.int 917505 347) :: (List.range 96).map fun (i : Nat) => Value.int (917536 + (i : Int)) (353 + i)).toArray) 0, #[]⟩
def fO (o : Nat → Obj) (S I : Obj) (i : Nat) : Obj := match Nat.beq i 70 with
  | true => S
  | false => match Nat.beq i 71 with
    | true => I
    | false => match Nat.beq i 69 with
      | true => lst69
      | false => o i
def lpCode : Code := .builtin "set.update.loop" ⟨[.ref 70, .ref 71], []⟩
structure Bg where
  o : Nat → Obj
  life : Life
  gens : Array GenState
  drawn : Drawn
  os : OsState
  pos : Pos
  k : Result → Sem Fin
  h : Option Value
  g : Bool
  l : List Value
  c : Code
  p : Pos
  kept : List Value
  rest : List Frame
noncomputable def at_ (B : Bg) (b : Bool) (j ep mask mv : Nat) : SharedT × Thread :=
  (⟨treeOf (fO B.o (setJ b j ep mask mv) (itJ j)) 72 10 1 0, 72, B.life, B.gens, B.drawn, 449 + j, B.os⟩,
   ⟨Fast.tw11892475500146522536 Fast.tw14364793385576792824 lpCode, lpCode, B.pos, .ret B.k B.h B.g B.l B.c B.p B.kept :: B.rest⟩)
def bgOf (x : SharedT × Thread) : Option Bg := match x.2.stack with
  | .ret k h g l c p kept :: rest => some ⟨fun i => (x.1.tree.get i).getD default, x.1.life, x.1.gens, x.1.drawn, x.1.os, x.2.pos, k, h, g, l, c, p, kept, rest⟩
  | _ => none
noncomputable def BG (w : World) : Option Bg := (XO (W0 w)).bind bgOf
abbrev bOf (w : World) : Bool := !w.params.followText "set-order"
end Zd

namespace Zd
open PySem PySem.W PyProof.Rows
theorem lp_1_20 : ∀ (w : World), (fun (B : Bg) (b : Bool) => runQ P0 w 28 ann0 384 (at_ B b 1 1 7 0)) = fun B b => some (at_ B b 20 22 127 2) :=
  byRow2 "special-get-raises" (P := fun w => (fun (B : Bg) (b : Bool) => runQ P0 w 28 ann0 384 (at_ B b 1 1 7 0)) = fun B b => some (at_ B b 20 22 127 2)) (fun w => by kernel_rfl) (fun w => by kernel_rfl)
theorem lp_20_21 : ∀ (w : World), (fun (B : Bg) (b : Bool) => runQ P0 w 28 ann0 20 (at_ B b 20 22 127 2)) = fun B b => some (at_ B b 21 23 127 2) :=
  byRow2 "special-get-raises" (P := fun w => (fun (B : Bg) (b : Bool) => runQ P0 w 28 ann0 20 (at_ B b 20 22 127 2)) = fun B b => some (at_ B b 21 23 127 2)) (fun w => by kernel_rfl) (fun w => by kernel_rfl)
theorem lp_21_22 : ∀ (w : World), (fun (B : Bg) (b : Bool) => runQ P0 w 28 ann0 20 (at_ B b 21 23 127 2)) = fun B b => some (at_ B b 22 24 127 2) :=
  byRow2 "special-get-raises" (P := fun w => (fun (B : Bg) (b : Bool) => runQ P0 w 28 ann0 20 (at_ B b 21 23 127 2)) = fun B b => some (at_ B b 22 24 127 2)) (fun w => by kernel_rfl) (fun w => by kernel_rfl)
theorem lp_22_23 : ∀ (w : World), (fun (B : Bg) (b : Bool) => runQ P0 w 28 ann0 20 (at_ B b 22 24 127 2)) = fun B b => some (at_ B b 23 25 127 2) :=
  byRow2 "special-get-raises" (P := fun w => (fun (B : Bg) (b : Bool) => runQ P0 w 28 ann0 20 (at_ B b 22 24 127 2)) = fun B b => some (at_ B b 23 25 127 2)) (fun w => by kernel_rfl) (fun w => by kernel_rfl)
theorem lp_23_24 : ∀ (w : World), (fun (B : Bg) (b : Bool) => runQ P0 w 28 ann0 20 (at_ B b 23 25 127 2)) = fun B b => some (at_ B b 24 26 127 2) :=
  byRow2 "special-get-raises" (P := fun w => (fun (B : Bg) (b : Bool) => runQ P0 w 28 ann0 20 (at_ B b 23 25 127 2)) = fun B b => some (at_ B b 24 26 127 2)) (fun w => by kernel_rfl) (fun w => by kernel_rfl)
theorem lp_24_25 : ∀ (w : World), (fun (B : Bg) (b : Bool) => runQ P0 w 28 ann0 20 (at_ B b 24 26 127 2)) = fun B b => some (at_ B b 25 27 127 2) :=
  byRow2 "special-get-raises" (P := fun w => (fun (B : Bg) (b : Bool) => runQ P0 w 28 ann0 20 (at_ B b 24 26 127 2)) = fun B b => some (at_ B b 25 27 127 2)) (fun w => by kernel_rfl) (fun w => by kernel_rfl)
theorem lp_25_26 : ∀ (w : World), (fun (B : Bg) (b : Bool) => runQ P0 w 28 ann0 20 (at_ B b 25 27 127 2)) = fun B b => some (at_ B b 26 28 127 2) :=
  byRow2 "special-get-raises" (P := fun w => (fun (B : Bg) (b : Bool) => runQ P0 w 28 ann0 20 (at_ B b 25 27 127 2)) = fun B b => some (at_ B b 26 28 127 2)) (fun w => by kernel_rfl) (fun w => by kernel_rfl)
theorem lp_26_27 : ∀ (w : World), (fun (B : Bg) (b : Bool) => runQ P0 w 28 ann0 20 (at_ B b 26 28 127 2)) = fun B b => some (at_ B b 27 29 127 2) :=
  byRow2 "special-get-raises" (P := fun w => (fun (B : Bg) (b : Bool) => runQ P0 w 28 ann0 20 (at_ B b 26 28 127 2)) = fun B b => some (at_ B b 27 29 127 2)) (fun w => by kernel_rfl) (fun w => by kernel_rfl)
theorem lp_27_28 : ∀ (w : World), (fun (B : Bg) (b : Bool) => runQ P0 w 28 ann0 20 (at_ B b 27 29 127 2)) = fun B b => some (at_ B b 28 30 127 2) :=
  byRow2 "special-get-raises" (P := fun w => (fun (B : Bg) (b : Bool) => runQ P0 w 28 ann0 20 (at_ B b 27 29 127 2)) = fun B b => some (at_ B b 28 30 127 2)) (fun w => by kernel_rfl) (fun w => by kernel_rfl)
theorem lp_28_29 : ∀ (w : World), (fun (B : Bg) (b : Bool) => runQ P0 w 28 ann0 20 (at_ B b 28 30 127 2)) = fun B b => some (at_ B b 29 31 127 2) :=
  byRow2 "special-get-raises" (P := fun w => (fun (B : Bg) (b : Bool) => runQ P0 w 28 ann0 20 (at_ B b 28 30 127 2)) = fun B b => some (at_ B b 29 31 127 2)) (fun w => by kernel_rfl) (fun w => by kernel_rfl)
theorem lp_29_30 : ∀ (w : World), (fun (B : Bg) (b : Bool) => runQ P0 w 28 ann0 20 (at_ B b 29 31 127 2)) = fun B b => some (at_ B b 30 32 127 2) :=
  byRow2 "special-get-raises" (P := fun w => (fun (B : Bg) (b : Bool) => runQ P0 w 28 ann0 20 (at_ B b 29 31 127 2)) = fun B b => some (at_ B b 30 32 127 2)) (fun w => by kernel_rfl) (fun w => by kernel_rfl)
theorem lp_30_31 : ∀ (w : World), (fun (B : Bg) (b : Bool) => runQ P0 w 28 ann0 20 (at_ B b 30 32 127 2)) = fun B b => some (at_ B b 31 33 127 2) :=
  byRow2 "special-get-raises" (P := fun w => (fun (B : Bg) (b : Bool) => runQ P0 w 28 ann0 20 (at_ B b 30 32 127 2)) = fun B b => some (at_ B b 31 33 127 2)) (fun w => by kernel_rfl) (fun w => by kernel_rfl)
theorem lp_31_32 : ∀ (w : World), (fun (B : Bg) (b : Bool) => runQ P0 w 28 ann0 20 (at_ B b 31 33 127 2)) = fun B b => some (at_ B b 32 34 127 2) :=
  byRow2 "special-get-raises" (P := fun w => (fun (B : Bg) (b : Bool) => runQ P0 w 28 ann0 20 (at_ B b 31 33 127 2)) = fun B b => some (at_ B b 32 34 127 2)) (fun w => by kernel_rfl) (fun w => by kernel_rfl)
theorem lp_32_33 : ∀ (w : World), (fun (B : Bg) (b : Bool) => runQ P0 w 28 ann0 20 (at_ B b 32 34 127 2)) = fun B b => some (at_ B b 33 35 127 2) :=
  byRow2 "special-get-raises" (P := fun w => (fun (B : Bg) (b : Bool) => runQ P0 w 28 ann0 20 (at_ B b 32 34 127 2)) = fun B b => some (at_ B b 33 35 127 2)) (fun w => by kernel_rfl) (fun w => by kernel_rfl)
theorem lp_33_34 : ∀ (w : World), (fun (B : Bg) (b : Bool) => runQ P0 w 28 ann0 20 (at_ B b 33 35 127 2)) = fun B b => some (at_ B b 34 36 127 2) :=
  byRow2 "special-get-raises" (P := fun w => (fun (B : Bg) (b : Bool) => runQ P0 w 28 ann0 20 (at_ B b 33 35 127 2)) = fun B b => some (at_ B b 34 36 127 2)) (fun w => by kernel_rfl) (fun w => by kernel_rfl)
theorem lp_34_35 : ∀ (w : World), (fun (B : Bg) (b : Bool) => runQ P0 w 28 ann0 20 (at_ B b 34 36 127 2)) = fun B b => some (at_ B b 35 37 127 2) :=
  byRow2 "special-get-raises" (P := fun w => (fun (B : Bg) (b : Bool) => runQ P0 w 28 ann0 20 (at_ B b 34 36 127 2)) = fun B b => some (at_ B b 35 37 127 2)) (fun w => by kernel_rfl) (fun w => by kernel_rfl)
theorem lp_35_36 : ∀ (w : World), (fun (B : Bg) (b : Bool) => runQ P0 w 28 ann0 20 (at_ B b 35 37 127 2)) = fun B b => some (at_ B b 36 38 127 2) :=
  byRow2 "special-get-raises" (P := fun w => (fun (B : Bg) (b : Bool) => runQ P0 w 28 ann0 20 (at_ B b 35 37 127 2)) = fun B b => some (at_ B b 36 38 127 2)) (fun w => by kernel_rfl) (fun w => by kernel_rfl)
theorem lp_36_37 : ∀ (w : World), (fun (B : Bg) (b : Bool) => runQ P0 w 28 ann0 20 (at_ B b 36 38 127 2)) = fun B b => some (at_ B b 37 39 127 2) :=
  byRow2 "special-get-raises" (P := fun w => (fun (B : Bg) (b : Bool) => runQ P0 w 28 ann0 20 (at_ B b 36 38 127 2)) = fun B b => some (at_ B b 37 39 127 2)) (fun w => by kernel_rfl) (fun w => by kernel_rfl)
theorem lp_37_38 : ∀ (w : World), (fun (B : Bg) (b : Bool) => runQ P0 w 28 ann0 20 (at_ B b 37 39 127 2)) = fun B b => some (at_ B b 38 40 127 2) :=
  byRow2 "special-get-raises" (P := fun w => (fun (B : Bg) (b : Bool) => runQ P0 w 28 ann0 20 (at_ B b 37 39 127 2)) = fun B b => some (at_ B b 38 40 127 2)) (fun w => by kernel_rfl) (fun w => by kernel_rfl)
theorem lp_38_39 : ∀ (w : World), (fun (B : Bg) (b : Bool) => runQ P0 w 28 ann0 20 (at_ B b 38 40 127 2)) = fun B b => some (at_ B b 39 41 127 2) :=
  byRow2 "special-get-raises" (P := fun w => (fun (B : Bg) (b : Bool) => runQ P0 w 28 ann0 20 (at_ B b 38 40 127 2)) = fun B b => some (at_ B b 39 41 127 2)) (fun w => by kernel_rfl) (fun w => by kernel_rfl)
theorem lp_39_40 : ∀ (w : World), (fun (B : Bg) (b : Bool) => runQ P0 w 28 ann0 20 (at_ B b 39 41 127 2)) = fun B b => some (at_ B b 40 42 127 2) :=
  byRow2 "special-get-raises" (P := fun w => (fun (B : Bg) (b : Bool) => runQ P0 w 28 ann0 20 (at_ B b 39 41 127 2)) = fun B b => some (at_ B b 40 42 127 2)) (fun w => by kernel_rfl) (fun w => by kernel_rfl)
theorem lp_40_41 : ∀ (w : World), (fun (B : Bg) (b : Bool) => runQ P0 w 28 ann0 20 (at_ B b 40 42 127 2)) = fun B b => some (at_ B b 41 43 127 2) :=
  byRow2 "special-get-raises" (P := fun w => (fun (B : Bg) (b : Bool) => runQ P0 w 28 ann0 20 (at_ B b 40 42 127 2)) = fun B b => some (at_ B b 41 43 127 2)) (fun w => by kernel_rfl) (fun w => by kernel_rfl)
theorem lp_41_42 : ∀ (w : World), (fun (B : Bg) (b : Bool) => runQ P0 w 28 ann0 20 (at_ B b 41 43 127 2)) = fun B b => some (at_ B b 42 44 127 2) :=
  byRow2 "special-get-raises" (P := fun w => (fun (B : Bg) (b : Bool) => runQ P0 w 28 ann0 20 (at_ B b 41 43 127 2)) = fun B b => some (at_ B b 42 44 127 2)) (fun w => by kernel_rfl) (fun w => by kernel_rfl)
theorem lp_42_43 : ∀ (w : World), (fun (B : Bg) (b : Bool) => runQ P0 w 28 ann0 20 (at_ B b 42 44 127 2)) = fun B b => some (at_ B b 43 45 127 2) :=
  byRow2 "special-get-raises" (P := fun w => (fun (B : Bg) (b : Bool) => runQ P0 w 28 ann0 20 (at_ B b 42 44 127 2)) = fun B b => some (at_ B b 43 45 127 2)) (fun w => by kernel_rfl) (fun w => by kernel_rfl)
theorem lp_43_44 : ∀ (w : World), (fun (B : Bg) (b : Bool) => runQ P0 w 28 ann0 20 (at_ B b 43 45 127 2)) = fun B b => some (at_ B b 44 46 127 2) :=
  byRow2 "special-get-raises" (P := fun w => (fun (B : Bg) (b : Bool) => runQ P0 w 28 ann0 20 (at_ B b 43 45 127 2)) = fun B b => some (at_ B b 44 46 127 2)) (fun w => by kernel_rfl) (fun w => by kernel_rfl)
theorem lp_44_45 : ∀ (w : World), (fun (B : Bg) (b : Bool) => runQ P0 w 28 ann0 20 (at_ B b 44 46 127 2)) = fun B b => some (at_ B b 45 47 127 2) :=
  byRow2 "special-get-raises" (P := fun w => (fun (B : Bg) (b : Bool) => runQ P0 w 28 ann0 20 (at_ B b 44 46 127 2)) = fun B b => some (at_ B b 45 47 127 2)) (fun w => by kernel_rfl) (fun w => by kernel_rfl)
theorem lp_45_46 : ∀ (w : World), (fun (B : Bg) (b : Bool) => runQ P0 w 28 ann0 20 (at_ B b 45 47 127 2)) = fun B b => some (at_ B b 46 48 127 2) :=
  byRow2 "special-get-raises" (P := fun w => (fun (B : Bg) (b : Bool) => runQ P0 w 28 ann0 20 (at_ B b 45 47 127 2)) = fun B b => some (at_ B b 46 48 127 2)) (fun w => by kernel_rfl) (fun w => by kernel_rfl)
theorem lp_46_47 : ∀ (w : World), (fun (B : Bg) (b : Bool) => runQ P0 w 28 ann0 20 (at_ B b 46 48 127 2)) = fun B b => some (at_ B b 47 49 127 2) :=
  byRow2 "special-get-raises" (P := fun w => (fun (B : Bg) (b : Bool) => runQ P0 w 28 ann0 20 (at_ B b 46 48 127 2)) = fun B b => some (at_ B b 47 49 127 2)) (fun w => by kernel_rfl) (fun w => by kernel_rfl)
theorem lp_47_48 : ∀ (w : World), (fun (B : Bg) (b : Bool) => runQ P0 w 28 ann0 20 (at_ B b 47 49 127 2)) = fun B b => some (at_ B b 48 50 127 2) :=
  byRow2 "special-get-raises" (P := fun w => (fun (B : Bg) (b : Bool) => runQ P0 w 28 ann0 20 (at_ B b 47 49 127 2)) = fun B b => some (at_ B b 48 50 127 2)) (fun w => by kernel_rfl) (fun w => by kernel_rfl)
theorem lp_48_49 : ∀ (w : World), (fun (B : Bg) (b : Bool) => runQ P0 w 28 ann0 20 (at_ B b 48 50 127 2)) = fun B b => some (at_ B b 49 51 127 2) :=
  byRow2 "special-get-raises" (P := fun w => (fun (B : Bg) (b : Bool) => runQ P0 w 28 ann0 20 (at_ B b 48 50 127 2)) = fun B b => some (at_ B b 49 51 127 2)) (fun w => by kernel_rfl) (fun w => by kernel_rfl)
theorem lp_49_50 : ∀ (w : World), (fun (B : Bg) (b : Bool) => runQ P0 w 28 ann0 20 (at_ B b 49 51 127 2)) = fun B b => some (at_ B b 50 52 127 2) :=
  byRow2 "special-get-raises" (P := fun w => (fun (B : Bg) (b : Bool) => runQ P0 w 28 ann0 20 (at_ B b 49 51 127 2)) = fun B b => some (at_ B b 50 52 127 2)) (fun w => by kernel_rfl) (fun w => by kernel_rfl)
theorem lp_50_51 : ∀ (w : World), (fun (B : Bg) (b : Bool) => runQ P0 w 28 ann0 20 (at_ B b 50 52 127 2)) = fun B b => some (at_ B b 51 53 127 2) :=
  byRow2 "special-get-raises" (P := fun w => (fun (B : Bg) (b : Bool) => runQ P0 w 28 ann0 20 (at_ B b 50 52 127 2)) = fun B b => some (at_ B b 51 53 127 2)) (fun w => by kernel_rfl) (fun w => by kernel_rfl)
theorem lp_51_52 : ∀ (w : World), (fun (B : Bg) (b : Bool) => runQ P0 w 28 ann0 20 (at_ B b 51 53 127 2)) = fun B b => some (at_ B b 52 54 127 2) :=
  byRow2 "special-get-raises" (P := fun w => (fun (B : Bg) (b : Bool) => runQ P0 w 28 ann0 20 (at_ B b 51 53 127 2)) = fun B b => some (at_ B b 52 54 127 2)) (fun w => by kernel_rfl) (fun w => by kernel_rfl)
theorem lp_52_53 : ∀ (w : World), (fun (B : Bg) (b : Bool) => runQ P0 w 28 ann0 20 (at_ B b 52 54 127 2)) = fun B b => some (at_ B b 53 55 127 2) :=
  byRow2 "special-get-raises" (P := fun w => (fun (B : Bg) (b : Bool) => runQ P0 w 28 ann0 20 (at_ B b 52 54 127 2)) = fun B b => some (at_ B b 53 55 127 2)) (fun w => by kernel_rfl) (fun w => by kernel_rfl)
theorem lp_53_54 : ∀ (w : World), (fun (B : Bg) (b : Bool) => runQ P0 w 28 ann0 20 (at_ B b 53 55 127 2)) = fun B b => some (at_ B b 54 56 127 2) :=
  byRow2 "special-get-raises" (P := fun w => (fun (B : Bg) (b : Bool) => runQ P0 w 28 ann0 20 (at_ B b 53 55 127 2)) = fun B b => some (at_ B b 54 56 127 2)) (fun w => by kernel_rfl) (fun w => by kernel_rfl)
theorem lp_54_55 : ∀ (w : World), (fun (B : Bg) (b : Bool) => runQ P0 w 28 ann0 20 (at_ B b 54 56 127 2)) = fun B b => some (at_ B b 55 57 127 2) :=
  byRow2 "special-get-raises" (P := fun w => (fun (B : Bg) (b : Bool) => runQ P0 w 28 ann0 20 (at_ B b 54 56 127 2)) = fun B b => some (at_ B b 55 57 127 2)) (fun w => by kernel_rfl) (fun w => by kernel_rfl)
theorem lp_55_56 : ∀ (w : World), (fun (B : Bg) (b : Bool) => runQ P0 w 28 ann0 20 (at_ B b 55 57 127 2)) = fun B b => some (at_ B b 56 58 127 2) :=
  byRow2 "special-get-raises" (P := fun w => (fun (B : Bg) (b : Bool) => runQ P0 w 28 ann0 20 (at_ B b 55 57 127 2)) = fun B b => some (at_ B b 56 58 127 2)) (fun w => by kernel_rfl) (fun w => by kernel_rfl)
theorem lp_56_57 : ∀ (w : World), (fun (B : Bg) (b : Bool) => runQ P0 w 28 ann0 20 (at_ B b 56 58 127 2)) = fun B b => some (at_ B b 57 59 127 2) :=
  byRow2 "special-get-raises" (P := fun w => (fun (B : Bg) (b : Bool) => runQ P0 w 28 ann0 20 (at_ B b 56 58 127 2)) = fun B b => some (at_ B b 57 59 127 2)) (fun w => by kernel_rfl) (fun w => by kernel_rfl)
theorem lp_57_58 : ∀ (w : World), (fun (B : Bg) (b : Bool) => runQ P0 w 28 ann0 20 (at_ B b 57 59 127 2)) = fun B b => some (at_ B b 58 60 127 2) :=
  byRow2 "special-get-raises" (P := fun w => (fun (B : Bg) (b : Bool) => runQ P0 w 28 ann0 20 (at_ B b 57 59 127 2)) = fun B b => some (at_ B b 58 60 127 2)) (fun w => by kernel_rfl) (fun w => by kernel_rfl)
theorem lp_58_59 : ∀ (w : World), (fun (B : Bg) (b : Bool) => runQ P0 w 28 ann0 20 (at_ B b 58 60 127 2)) = fun B b => some (at_ B b 59 61 127 2) :=
  byRow2 "special-get-raises" (P := fun w => (fun (B : Bg) (b : Bool) => runQ P0 w 28 ann0 20 (at_ B b 58 60 127 2)) = fun B b => some (at_ B b 59 61 127 2)) (fun w => by kernel_rfl) (fun w => by kernel_rfl)
theorem lp_59_60 : ∀ (w : World), (fun (B : Bg) (b : Bool) => runQ P0 w 28 ann0 20 (at_ B b 59 61 127 2)) = fun B b => some (at_ B b 60 62 127 2) :=
  byRow2 "special-get-raises" (P := fun w => (fun (B : Bg) (b : Bool) => runQ P0 w 28 ann0 20 (at_ B b 59 61 127 2)) = fun B b => some (at_ B b 60 62 127 2)) (fun w => by kernel_rfl) (fun w => by kernel_rfl)
theorem lp_60_61 : ∀ (w : World), (fun (B : Bg) (b : Bool) => runQ P0 w 28 ann0 20 (at_ B b 60 62 127 2)) = fun B b => some (at_ B b 61 63 127 2) :=
  byRow2 "special-get-raises" (P := fun w => (fun (B : Bg) (b : Bool) => runQ P0 w 28 ann0 20 (at_ B b 60 62 127 2)) = fun B b => some (at_ B b 61 63 127 2)) (fun w => by kernel_rfl) (fun w => by kernel_rfl)
theorem lp_61_62 : ∀ (w : World), (fun (B : Bg) (b : Bool) => runQ P0 w 28 ann0 20 (at_ B b 61 63 127 2)) = fun B b => some (at_ B b 62 64 127 2) :=
  byRow2 "special-get-raises" (P := fun w => (fun (B : Bg) (b : Bool) => runQ P0 w 28 ann0 20 (at_ B b 61 63 127 2)) = fun B b => some (at_ B b 62 64 127 2)) (fun w => by kernel_rfl) (fun w => by kernel_rfl)
theorem lp_62_63 : ∀ (w : World), (fun (B : Bg) (b : Bool) => runQ P0 w 28 ann0 20 (at_ B b 62 64 127 2)) = fun B b => some (at_ B b 63 65 127 2) :=
  byRow2 "special-get-raises" (P := fun w => (fun (B : Bg) (b : Bool) => runQ P0 w 28 ann0 20 (at_ B b 62 64 127 2)) = fun B b => some (at_ B b 63 65 127 2)) (fun w => by kernel_rfl) (fun w => by kernel_rfl)
theorem lp_63_64 : ∀ (w : World), (fun (B : Bg) (b : Bool) => runQ P0 w 28 ann0 20 (at_ B b 63 65 127 2)) = fun B b => some (at_ B b 64 66 127 2) :=
  byRow2 "special-get-raises" (P := fun w => (fun (B : Bg) (b : Bool) => runQ P0 w 28 ann0 20 (at_ B b 63 65 127 2)) = fun B b => some (at_ B b 64 66 127 2)) (fun w => by kernel_rfl) (fun w => by kernel_rfl)
theorem lp_64_65 : ∀ (w : World), (fun (B : Bg) (b : Bool) => runQ P0 w 28 ann0 20 (at_ B b 64 66 127 2)) = fun B b => some (at_ B b 65 67 127 2) :=
  byRow2 "special-get-raises" (P := fun w => (fun (B : Bg) (b : Bool) => runQ P0 w 28 ann0 20 (at_ B b 64 66 127 2)) = fun B b => some (at_ B b 65 67 127 2)) (fun w => by kernel_rfl) (fun w => by kernel_rfl)
theorem lp_65_66 : ∀ (w : World), (fun (B : Bg) (b : Bool) => runQ P0 w 28 ann0 20 (at_ B b 65 67 127 2)) = fun B b => some (at_ B b 66 68 127 2) :=
  byRow2 "special-get-raises" (P := fun w => (fun (B : Bg) (b : Bool) => runQ P0 w 28 ann0 20 (at_ B b 65 67 127 2)) = fun B b => some (at_ B b 66 68 127 2)) (fun w => by kernel_rfl) (fun w => by kernel_rfl)
theorem lp_66_67 : ∀ (w : World), (fun (B : Bg) (b : Bool) => runQ P0 w 28 ann0 20 (at_ B b 66 68 127 2)) = fun B b => some (at_ B b 67 69 127 2) :=
  byRow2 "special-get-raises" (P := fun w => (fun (B : Bg) (b : Bool) => runQ P0 w 28 ann0 20 (at_ B b 66 68 127 2)) = fun B b => some (at_ B b 67 69 127 2)) (fun w => by kernel_rfl) (fun w => by kernel_rfl)
theorem lp_67_68 : ∀ (w : World), (fun (B : Bg) (b : Bool) => runQ P0 w 28 ann0 20 (at_ B b 67 69 127 2)) = fun B b => some (at_ B b 68 70 127 2) :=
  byRow2 "special-get-raises" (P := fun w => (fun (B : Bg) (b : Bool) => runQ P0 w 28 ann0 20 (at_ B b 67 69 127 2)) = fun B b => some (at_ B b 68 70 127 2)) (fun w => by kernel_rfl) (fun w => by kernel_rfl)
theorem lp_68_69 : ∀ (w : World), (fun (B : Bg) (b : Bool) => runQ P0 w 28 ann0 20 (at_ B b 68 70 127 2)) = fun B b => some (at_ B b 69 71 127 2) :=
  byRow2 "special-get-raises" (P := fun w => (fun (B : Bg) (b : Bool) => runQ P0 w 28 ann0 20 (at_ B b 68 70 127 2)) = fun B b => some (at_ B b 69 71 127 2)) (fun w => by kernel_rfl) (fun w => by kernel_rfl)
theorem lp_69_70 : ∀ (w : World), (fun (B : Bg) (b : Bool) => runQ P0 w 28 ann0 20 (at_ B b 69 71 127 2)) = fun B b => some (at_ B b 70 72 127 2) :=
  byRow2 "special-get-raises" (P := fun w => (fun (B : Bg) (b : Bool) => runQ P0 w 28 ann0 20 (at_ B b 69 71 127 2)) = fun B b => some (at_ B b 70 72 127 2)) (fun w => by kernel_rfl) (fun w => by kernel_rfl)
theorem lp_70_71 : ∀ (w : World), (fun (B : Bg) (b : Bool) => runQ P0 w 28 ann0 20 (at_ B b 70 72 127 2)) = fun B b => some (at_ B b 71 73 127 2) :=
  byRow2 "special-get-raises" (P := fun w => (fun (B : Bg) (b : Bool) => runQ P0 w 28 ann0 20 (at_ B b 70 72 127 2)) = fun B b => some (at_ B b 71 73 127 2)) (fun w => by kernel_rfl) (fun w => by kernel_rfl)
theorem lp_71_72 : ∀ (w : World), (fun (B : Bg) (b : Bool) => runQ P0 w 28 ann0 20 (at_ B b 71 73 127 2)) = fun B b => some (at_ B b 72 74 127 2) :=
  byRow2 "special-get-raises" (P := fun w => (fun (B : Bg) (b : Bool) => runQ P0 w 28 ann0 20 (at_ B b 71 73 127 2)) = fun B b => some (at_ B b 72 74 127 2)) (fun w => by kernel_rfl) (fun w => by kernel_rfl)
theorem lp_72_73 : ∀ (w : World), (fun (B : Bg) (b : Bool) => runQ P0 w 28 ann0 20 (at_ B b 72 74 127 2)) = fun B b => some (at_ B b 73 75 127 2) :=
  byRow2 "special-get-raises" (P := fun w => (fun (B : Bg) (b : Bool) => runQ P0 w 28 ann0 20 (at_ B b 72 74 127 2)) = fun B b => some (at_ B b 73 75 127 2)) (fun w => by kernel_rfl) (fun w => by kernel_rfl)
theorem lp_73_74 : ∀ (w : World), (fun (B : Bg) (b : Bool) => runQ P0 w 28 ann0 20 (at_ B b 73 75 127 2)) = fun B b => some (at_ B b 74 76 127 2) :=
  byRow2 "special-get-raises" (P := fun w => (fun (B : Bg) (b : Bool) => runQ P0 w 28 ann0 20 (at_ B b 73 75 127 2)) = fun B b => some (at_ B b 74 76 127 2)) (fun w => by kernel_rfl) (fun w => by kernel_rfl)
theorem lp_74_75 : ∀ (w : World), (fun (B : Bg) (b : Bool) => runQ P0 w 28 ann0 20 (at_ B b 74 76 127 2)) = fun B b => some (at_ B b 75 77 127 2) :=
  byRow2 "special-get-raises" (P := fun w => (fun (B : Bg) (b : Bool) => runQ P0 w 28 ann0 20 (at_ B b 74 76 127 2)) = fun B b => some (at_ B b 75 77 127 2)) (fun w => by kernel_rfl) (fun w => by kernel_rfl)
theorem lp_75_76 : ∀ (w : World), (fun (B : Bg) (b : Bool) => runQ P0 w 28 ann0 20 (at_ B b 75 77 127 2)) = fun B b => some (at_ B b 76 78 127 2) :=
  byRow2 "special-get-raises" (P := fun w => (fun (B : Bg) (b : Bool) => runQ P0 w 28 ann0 20 (at_ B b 75 77 127 2)) = fun B b => some (at_ B b 76 78 127 2)) (fun w => by kernel_rfl) (fun w => by kernel_rfl)
theorem lp_76_77a : ∀ (w : World), (fun (B : Bg) (b : Bool) => runQ P0 (w.withFollow "special-get-raises" false) 28 ann0 22 (at_ B b 76 78 127 2)) = fun B b => some (at_ B b 77 80 511 3) :=
  fun w => by kernel_rfl
theorem lp_76_77b : ∀ (w : World), (fun (B : Bg) (b : Bool) => runQ P0 (w.withFollow "special-get-raises" true) 28 ann0 22 (at_ B b 76 78 127 2)) = fun B b => some (at_ B b 77 80 511 3) :=
  fun w => by kernel_rfl
theorem lp_76_77 : ∀ (w : World), (fun (B : Bg) (b : Bool) => runQ P0 w 28 ann0 22 (at_ B b 76 78 127 2)) = fun B b => some (at_ B b 77 80 511 3) :=
  byRow2 "special-get-raises" (P := fun w => (fun (B : Bg) (b : Bool) => runQ P0 w 28 ann0 22 (at_ B b 76 78 127 2)) = fun B b => some (at_ B b 77 80 511 3)) lp_76_77a lp_76_77b
theorem lp_77_78 : ∀ (w : World), (fun (B : Bg) (b : Bool) => runQ P0 w 28 ann0 20 (at_ B b 77 80 511 3)) = fun B b => some (at_ B b 78 81 511 3) :=
  byRow2 "special-get-raises" (P := fun w => (fun (B : Bg) (b : Bool) => runQ P0 w 28 ann0 20 (at_ B b 77 80 511 3)) = fun B b => some (at_ B b 78 81 511 3)) (fun w => by kernel_rfl) (fun w => by kernel_rfl)
theorem lp_78_79 : ∀ (w : World), (fun (B : Bg) (b : Bool) => runQ P0 w 28 ann0 20 (at_ B b 78 81 511 3)) = fun B b => some (at_ B b 79 82 511 3) :=
  byRow2 "special-get-raises" (P := fun w => (fun (B : Bg) (b : Bool) => runQ P0 w 28 ann0 20 (at_ B b 78 81 511 3)) = fun B b => some (at_ B b 79 82 511 3)) (fun w => by kernel_rfl) (fun w => by kernel_rfl)
theorem lp_79_80 : ∀ (w : World), (fun (B : Bg) (b : Bool) => runQ P0 w 28 ann0 20 (at_ B b 79 82 511 3)) = fun B b => some (at_ B b 80 83 511 3) :=
  byRow2 "special-get-raises" (P := fun w => (fun (B : Bg) (b : Bool) => runQ P0 w 28 ann0 20 (at_ B b 79 82 511 3)) = fun B b => some (at_ B b 80 83 511 3)) (fun w => by kernel_rfl) (fun w => by kernel_rfl)
theorem lp_80_81 : ∀ (w : World), (fun (B : Bg) (b : Bool) => runQ P0 w 28 ann0 20 (at_ B b 80 83 511 3)) = fun B b => some (at_ B b 81 84 511 3) :=
  byRow2 "special-get-raises" (P := fun w => (fun (B : Bg) (b : Bool) => runQ P0 w 28 ann0 20 (at_ B b 80 83 511 3)) = fun B b => some (at_ B b 81 84 511 3)) (fun w => by kernel_rfl) (fun w => by kernel_rfl)
theorem lp_81_82 : ∀ (w : World), (fun (B : Bg) (b : Bool) => runQ P0 w 28 ann0 20 (at_ B b 81 84 511 3)) = fun B b => some (at_ B b 82 85 511 3) :=
  byRow2 "special-get-raises" (P := fun w => (fun (B : Bg) (b : Bool) => runQ P0 w 28 ann0 20 (at_ B b 81 84 511 3)) = fun B b => some (at_ B b 82 85 511 3)) (fun w => by kernel_rfl) (fun w => by kernel_rfl)
theorem lp_82_83 : ∀ (w : World), (fun (B : Bg) (b : Bool) => runQ P0 w 28 ann0 20 (at_ B b 82 85 511 3)) = fun B b => some (at_ B b 83 86 511 3) :=
  byRow2 "special-get-raises" (P := fun w => (fun (B : Bg) (b : Bool) => runQ P0 w 28 ann0 20 (at_ B b 82 85 511 3)) = fun B b => some (at_ B b 83 86 511 3)) (fun w => by kernel_rfl) (fun w => by kernel_rfl)
theorem lp_83_84 : ∀ (w : World), (fun (B : Bg) (b : Bool) => runQ P0 w 28 ann0 20 (at_ B b 83 86 511 3)) = fun B b => some (at_ B b 84 87 511 3) :=
  byRow2 "special-get-raises" (P := fun w => (fun (B : Bg) (b : Bool) => runQ P0 w 28 ann0 20 (at_ B b 83 86 511 3)) = fun B b => some (at_ B b 84 87 511 3)) (fun w => by kernel_rfl) (fun w => by kernel_rfl)
theorem lp_84_85 : ∀ (w : World), (fun (B : Bg) (b : Bool) => runQ P0 w 28 ann0 20 (at_ B b 84 87 511 3)) = fun B b => some (at_ B b 85 88 511 3) :=
  byRow2 "special-get-raises" (P := fun w => (fun (B : Bg) (b : Bool) => runQ P0 w 28 ann0 20 (at_ B b 84 87 511 3)) = fun B b => some (at_ B b 85 88 511 3)) (fun w => by kernel_rfl) (fun w => by kernel_rfl)
theorem lp_85_86 : ∀ (w : World), (fun (B : Bg) (b : Bool) => runQ P0 w 28 ann0 20 (at_ B b 85 88 511 3)) = fun B b => some (at_ B b 86 89 511 3) :=
  byRow2 "special-get-raises" (P := fun w => (fun (B : Bg) (b : Bool) => runQ P0 w 28 ann0 20 (at_ B b 85 88 511 3)) = fun B b => some (at_ B b 86 89 511 3)) (fun w => by kernel_rfl) (fun w => by kernel_rfl)
theorem lp_86_87 : ∀ (w : World), (fun (B : Bg) (b : Bool) => runQ P0 w 28 ann0 20 (at_ B b 86 89 511 3)) = fun B b => some (at_ B b 87 90 511 3) :=
  byRow2 "special-get-raises" (P := fun w => (fun (B : Bg) (b : Bool) => runQ P0 w 28 ann0 20 (at_ B b 86 89 511 3)) = fun B b => some (at_ B b 87 90 511 3)) (fun w => by kernel_rfl) (fun w => by kernel_rfl)
theorem lp_87_88 : ∀ (w : World), (fun (B : Bg) (b : Bool) => runQ P0 w 28 ann0 20 (at_ B b 87 90 511 3)) = fun B b => some (at_ B b 88 91 511 3) :=
  byRow2 "special-get-raises" (P := fun w => (fun (B : Bg) (b : Bool) => runQ P0 w 28 ann0 20 (at_ B b 87 90 511 3)) = fun B b => some (at_ B b 88 91 511 3)) (fun w => by kernel_rfl) (fun w => by kernel_rfl)
theorem lp_88_89 : ∀ (w : World), (fun (B : Bg) (b : Bool) => runQ P0 w 28 ann0 20 (at_ B b 88 91 511 3)) = fun B b => some (at_ B b 89 92 511 3) :=
  byRow2 "special-get-raises" (P := fun w => (fun (B : Bg) (b : Bool) => runQ P0 w 28 ann0 20 (at_ B b 88 91 511 3)) = fun B b => some (at_ B b 89 92 511 3)) (fun w => by kernel_rfl) (fun w => by kernel_rfl)
theorem lp_89_90 : ∀ (w : World), (fun (B : Bg) (b : Bool) => runQ P0 w 28 ann0 20 (at_ B b 89 92 511 3)) = fun B b => some (at_ B b 90 93 511 3) :=
  byRow2 "special-get-raises" (P := fun w => (fun (B : Bg) (b : Bool) => runQ P0 w 28 ann0 20 (at_ B b 89 92 511 3)) = fun B b => some (at_ B b 90 93 511 3)) (fun w => by kernel_rfl) (fun w => by kernel_rfl)
theorem lp_90_91 : ∀ (w : World), (fun (B : Bg) (b : Bool) => runQ P0 w 28 ann0 20 (at_ B b 90 93 511 3)) = fun B b => some (at_ B b 91 94 511 3) :=
  byRow2 "special-get-raises" (P := fun w => (fun (B : Bg) (b : Bool) => runQ P0 w 28 ann0 20 (at_ B b 90 93 511 3)) = fun B b => some (at_ B b 91 94 511 3)) (fun w => by kernel_rfl) (fun w => by kernel_rfl)
theorem lp_91_92 : ∀ (w : World), (fun (B : Bg) (b : Bool) => runQ P0 w 28 ann0 20 (at_ B b 91 94 511 3)) = fun B b => some (at_ B b 92 95 511 3) :=
  byRow2 "special-get-raises" (P := fun w => (fun (B : Bg) (b : Bool) => runQ P0 w 28 ann0 20 (at_ B b 91 94 511 3)) = fun B b => some (at_ B b 92 95 511 3)) (fun w => by kernel_rfl) (fun w => by kernel_rfl)
theorem lp_92_93 : ∀ (w : World), (fun (B : Bg) (b : Bool) => runQ P0 w 28 ann0 20 (at_ B b 92 95 511 3)) = fun B b => some (at_ B b 93 96 511 3) :=
  byRow2 "special-get-raises" (P := fun w => (fun (B : Bg) (b : Bool) => runQ P0 w 28 ann0 20 (at_ B b 92 95 511 3)) = fun B b => some (at_ B b 93 96 511 3)) (fun w => by kernel_rfl) (fun w => by kernel_rfl)
theorem lp_93_94 : ∀ (w : World), (fun (B : Bg) (b : Bool) => runQ P0 w 28 ann0 20 (at_ B b 93 96 511 3)) = fun B b => some (at_ B b 94 97 511 3) :=
  byRow2 "special-get-raises" (P := fun w => (fun (B : Bg) (b : Bool) => runQ P0 w 28 ann0 20 (at_ B b 93 96 511 3)) = fun B b => some (at_ B b 94 97 511 3)) (fun w => by kernel_rfl) (fun w => by kernel_rfl)
theorem lp_94_95 : ∀ (w : World), (fun (B : Bg) (b : Bool) => runQ P0 w 28 ann0 20 (at_ B b 94 97 511 3)) = fun B b => some (at_ B b 95 98 511 3) :=
  byRow2 "special-get-raises" (P := fun w => (fun (B : Bg) (b : Bool) => runQ P0 w 28 ann0 20 (at_ B b 94 97 511 3)) = fun B b => some (at_ B b 95 98 511 3)) (fun w => by kernel_rfl) (fun w => by kernel_rfl)
theorem lp_95_96 : ∀ (w : World), (fun (B : Bg) (b : Bool) => runQ P0 w 28 ann0 20 (at_ B b 95 98 511 3)) = fun B b => some (at_ B b 96 99 511 3) :=
  byRow2 "special-get-raises" (P := fun w => (fun (B : Bg) (b : Bool) => runQ P0 w 28 ann0 20 (at_ B b 95 98 511 3)) = fun B b => some (at_ B b 96 99 511 3)) (fun w => by kernel_rfl) (fun w => by kernel_rfl)
theorem lp_96_97 : ∀ (w : World), (fun (B : Bg) (b : Bool) => runQ P0 w 28 ann0 20 (at_ B b 96 99 511 3)) = fun B b => some (at_ B b 97 100 511 3) :=
  byRow2 "special-get-raises" (P := fun w => (fun (B : Bg) (b : Bool) => runQ P0 w 28 ann0 20 (at_ B b 96 99 511 3)) = fun B b => some (at_ B b 97 100 511 3)) (fun w => by kernel_rfl) (fun w => by kernel_rfl)

theorem goT (w : World) (B : Bg) (b : Bool) : runT P0 w 28 ann0 1926 (at_ B b 1 1 7 0) = some (at_ B b 97 100 511 3) := by
  have e : ∀ (n m : Nat) (x y : SharedT × Thread), runQ P0 w 28 ann0 n x = some y → runT P0 w 28 ann0 (n + m) x = runT P0 w 28 ann0 m y := fun n m x y h => runT_add n m x y (by rw [← runQ_eq]; exact h)
  rw [show (1926 : Nat) = 384 + 1542 from rfl, e _ _ _ _ (congrFun (congrFun (lp_1_20 w) B) b)]
  rw [show (1542 : Nat) = 20 + 1522 from rfl, e _ _ _ _ (congrFun (congrFun (lp_20_21 w) B) b)]
  rw [show (1522 : Nat) = 20 + 1502 from rfl, e _ _ _ _ (congrFun (congrFun (lp_21_22 w) B) b)]
  rw [show (1502 : Nat) = 20 + 1482 from rfl, e _ _ _ _ (congrFun (congrFun (lp_22_23 w) B) b)]
  rw [show (1482 : Nat) = 20 + 1462 from rfl, e _ _ _ _ (congrFun (congrFun (lp_23_24 w) B) b)]
  rw [show (1462 : Nat) = 20 + 1442 from rfl, e _ _ _ _ (congrFun (congrFun (lp_24_25 w) B) b)]
  rw [show (1442 : Nat) = 20 + 1422 from rfl, e _ _ _ _ (congrFun (congrFun (lp_25_26 w) B) b)]
  rw [show (1422 : Nat) = 20 + 1402 from rfl, e _ _ _ _ (congrFun (congrFun (lp_26_27 w) B) b)]
  rw [show (1402 : Nat) = 20 + 1382 from rfl, e _ _ _ _ (congrFun (congrFun (lp_27_28 w) B) b)]
  rw [show (1382 : Nat) = 20 + 1362 from rfl, e _ _ _ _ (congrFun (congrFun (lp_28_29 w) B) b)]
  rw [show (1362 : Nat) = 20 + 1342 from rfl, e _ _ _ _ (congrFun (congrFun (lp_29_30 w) B) b)]
  rw [show (1342 : Nat) = 20 + 1322 from rfl, e _ _ _ _ (congrFun (congrFun (lp_30_31 w) B) b)]
  rw [show (1322 : Nat) = 20 + 1302 from rfl, e _ _ _ _ (congrFun (congrFun (lp_31_32 w) B) b)]
  rw [show (1302 : Nat) = 20 + 1282 from rfl, e _ _ _ _ (congrFun (congrFun (lp_32_33 w) B) b)]
  rw [show (1282 : Nat) = 20 + 1262 from rfl, e _ _ _ _ (congrFun (congrFun (lp_33_34 w) B) b)]
  rw [show (1262 : Nat) = 20 + 1242 from rfl, e _ _ _ _ (congrFun (congrFun (lp_34_35 w) B) b)]
  rw [show (1242 : Nat) = 20 + 1222 from rfl, e _ _ _ _ (congrFun (congrFun (lp_35_36 w) B) b)]
  rw [show (1222 : Nat) = 20 + 1202 from rfl, e _ _ _ _ (congrFun (congrFun (lp_36_37 w) B) b)]
  rw [show (1202 : Nat) = 20 + 1182 from rfl, e _ _ _ _ (congrFun (congrFun (lp_37_38 w) B) b)]
  rw [show (1182 : Nat) = 20 + 1162 from rfl, e _ _ _ _ (congrFun (congrFun (lp_38_39 w) B) b)]
  rw [show (1162 : Nat) = 20 + 1142 from rfl, e _ _ _ _ (congrFun (congrFun (lp_39_40 w) B) b)]
  rw [show (1142 : Nat) = 20 + 1122 from rfl, e _ _ _ _ (congrFun (congrFun (lp_40_41 w) B) b)]
  rw [show (1122 : Nat) = 20 + 1102 from rfl, e _ _ _ _ (congrFun (congrFun (lp_41_42 w) B) b)]
  rw [show (1102 : Nat) = 20 + 1082 from rfl, e _ _ _ _ (congrFun (congrFun (lp_42_43 w) B) b)]
  rw [show (1082 : Nat) = 20 + 1062 from rfl, e _ _ _ _ (congrFun (congrFun (lp_43_44 w) B) b)]
  rw [show (1062 : Nat) = 20 + 1042 from rfl, e _ _ _ _ (congrFun (congrFun (lp_44_45 w) B) b)]
  rw [show (1042 : Nat) = 20 + 1022 from rfl, e _ _ _ _ (congrFun (congrFun (lp_45_46 w) B) b)]
  rw [show (1022 : Nat) = 20 + 1002 from rfl, e _ _ _ _ (congrFun (congrFun (lp_46_47 w) B) b)]
  rw [show (1002 : Nat) = 20 + 982 from rfl, e _ _ _ _ (congrFun (congrFun (lp_47_48 w) B) b)]
  rw [show (982 : Nat) = 20 + 962 from rfl, e _ _ _ _ (congrFun (congrFun (lp_48_49 w) B) b)]
  rw [show (962 : Nat) = 20 + 942 from rfl, e _ _ _ _ (congrFun (congrFun (lp_49_50 w) B) b)]
  rw [show (942 : Nat) = 20 + 922 from rfl, e _ _ _ _ (congrFun (congrFun (lp_50_51 w) B) b)]
  rw [show (922 : Nat) = 20 + 902 from rfl, e _ _ _ _ (congrFun (congrFun (lp_51_52 w) B) b)]
  rw [show (902 : Nat) = 20 + 882 from rfl, e _ _ _ _ (congrFun (congrFun (lp_52_53 w) B) b)]
  rw [show (882 : Nat) = 20 + 862 from rfl, e _ _ _ _ (congrFun (congrFun (lp_53_54 w) B) b)]
  rw [show (862 : Nat) = 20 + 842 from rfl, e _ _ _ _ (congrFun (congrFun (lp_54_55 w) B) b)]
  rw [show (842 : Nat) = 20 + 822 from rfl, e _ _ _ _ (congrFun (congrFun (lp_55_56 w) B) b)]
  rw [show (822 : Nat) = 20 + 802 from rfl, e _ _ _ _ (congrFun (congrFun (lp_56_57 w) B) b)]
  rw [show (802 : Nat) = 20 + 782 from rfl, e _ _ _ _ (congrFun (congrFun (lp_57_58 w) B) b)]
  rw [show (782 : Nat) = 20 + 762 from rfl, e _ _ _ _ (congrFun (congrFun (lp_58_59 w) B) b)]
  rw [show (762 : Nat) = 20 + 742 from rfl, e _ _ _ _ (congrFun (congrFun (lp_59_60 w) B) b)]
  rw [show (742 : Nat) = 20 + 722 from rfl, e _ _ _ _ (congrFun (congrFun (lp_60_61 w) B) b)]
  rw [show (722 : Nat) = 20 + 702 from rfl, e _ _ _ _ (congrFun (congrFun (lp_61_62 w) B) b)]
  rw [show (702 : Nat) = 20 + 682 from rfl, e _ _ _ _ (congrFun (congrFun (lp_62_63 w) B) b)]
  rw [show (682 : Nat) = 20 + 662 from rfl, e _ _ _ _ (congrFun (congrFun (lp_63_64 w) B) b)]
  rw [show (662 : Nat) = 20 + 642 from rfl, e _ _ _ _ (congrFun (congrFun (lp_64_65 w) B) b)]
  rw [show (642 : Nat) = 20 + 622 from rfl, e _ _ _ _ (congrFun (congrFun (lp_65_66 w) B) b)]
  rw [show (622 : Nat) = 20 + 602 from rfl, e _ _ _ _ (congrFun (congrFun (lp_66_67 w) B) b)]
  rw [show (602 : Nat) = 20 + 582 from rfl, e _ _ _ _ (congrFun (congrFun (lp_67_68 w) B) b)]
  rw [show (582 : Nat) = 20 + 562 from rfl, e _ _ _ _ (congrFun (congrFun (lp_68_69 w) B) b)]
  rw [show (562 : Nat) = 20 + 542 from rfl, e _ _ _ _ (congrFun (congrFun (lp_69_70 w) B) b)]
  rw [show (542 : Nat) = 20 + 522 from rfl, e _ _ _ _ (congrFun (congrFun (lp_70_71 w) B) b)]
  rw [show (522 : Nat) = 20 + 502 from rfl, e _ _ _ _ (congrFun (congrFun (lp_71_72 w) B) b)]
  rw [show (502 : Nat) = 20 + 482 from rfl, e _ _ _ _ (congrFun (congrFun (lp_72_73 w) B) b)]
  rw [show (482 : Nat) = 20 + 462 from rfl, e _ _ _ _ (congrFun (congrFun (lp_73_74 w) B) b)]
  rw [show (462 : Nat) = 20 + 442 from rfl, e _ _ _ _ (congrFun (congrFun (lp_74_75 w) B) b)]
  rw [show (442 : Nat) = 20 + 422 from rfl, e _ _ _ _ (congrFun (congrFun (lp_75_76 w) B) b)]
  rw [show (422 : Nat) = 22 + 400 from rfl, e _ _ _ _ (congrFun (congrFun (lp_76_77 w) B) b)]
  rw [show (400 : Nat) = 20 + 380 from rfl, e _ _ _ _ (congrFun (congrFun (lp_77_78 w) B) b)]
  rw [show (380 : Nat) = 20 + 360 from rfl, e _ _ _ _ (congrFun (congrFun (lp_78_79 w) B) b)]
  rw [show (360 : Nat) = 20 + 340 from rfl, e _ _ _ _ (congrFun (congrFun (lp_79_80 w) B) b)]
  rw [show (340 : Nat) = 20 + 320 from rfl, e _ _ _ _ (congrFun (congrFun (lp_80_81 w) B) b)]
  rw [show (320 : Nat) = 20 + 300 from rfl, e _ _ _ _ (congrFun (congrFun (lp_81_82 w) B) b)]
  rw [show (300 : Nat) = 20 + 280 from rfl, e _ _ _ _ (congrFun (congrFun (lp_82_83 w) B) b)]
  rw [show (280 : Nat) = 20 + 260 from rfl, e _ _ _ _ (congrFun (congrFun (lp_83_84 w) B) b)]
  rw [show (260 : Nat) = 20 + 240 from rfl, e _ _ _ _ (congrFun (congrFun (lp_84_85 w) B) b)]
  rw [show (240 : Nat) = 20 + 220 from rfl, e _ _ _ _ (congrFun (congrFun (lp_85_86 w) B) b)]
  rw [show (220 : Nat) = 20 + 200 from rfl, e _ _ _ _ (congrFun (congrFun (lp_86_87 w) B) b)]
  rw [show (200 : Nat) = 20 + 180 from rfl, e _ _ _ _ (congrFun (congrFun (lp_87_88 w) B) b)]
  rw [show (180 : Nat) = 20 + 160 from rfl, e _ _ _ _ (congrFun (congrFun (lp_88_89 w) B) b)]
  rw [show (160 : Nat) = 20 + 140 from rfl, e _ _ _ _ (congrFun (congrFun (lp_89_90 w) B) b)]
  rw [show (140 : Nat) = 20 + 120 from rfl, e _ _ _ _ (congrFun (congrFun (lp_90_91 w) B) b)]
  rw [show (120 : Nat) = 20 + 100 from rfl, e _ _ _ _ (congrFun (congrFun (lp_91_92 w) B) b)]
  rw [show (100 : Nat) = 20 + 80 from rfl, e _ _ _ _ (congrFun (congrFun (lp_92_93 w) B) b)]
  rw [show (80 : Nat) = 20 + 60 from rfl, e _ _ _ _ (congrFun (congrFun (lp_93_94 w) B) b)]
  rw [show (60 : Nat) = 20 + 40 from rfl, e _ _ _ _ (congrFun (congrFun (lp_94_95 w) B) b)]
  rw [show (40 : Nat) = 20 + 20 from rfl, e _ _ _ _ (congrFun (congrFun (lp_95_96 w) B) b)]
  rw [show (20 : Nat) = 20 + 0 from rfl, e _ _ _ _ (congrFun (congrFun (lp_96_97 w) B) b)]
  rfl
end Zd

namespace Zd
open PySem PySem.W PyProof.Rows
theorem lemA1a (w : World) : XO (w.withFollow "special-get-raises" false) = XO (W0 (w.withFollow "special-get-raises" false)) := by
  have h := World.withFollow_self (w.withFollow "special-get-raises" false) "special-get-raises"
  have e : (w.withFollow "special-get-raises" false).params.followText "special-get-raises" = false := by
    show (if ("special-get-raises" : String) = "special-get-raises" then false else w.params.followText "special-get-raises") = false
    exact if_pos rfl
  rw [e] at h
  unfold W0
  rw [h]
theorem lemA1b : ∀ w : World, XO (w.withFollow "special-get-raises" true) = XO (W0 (w.withFollow "special-get-raises" true)) := fun w => by kernel_rfl
theorem lemA1 : ∀ w : World, XO w = XO (W0 w) := byRow2 "special-get-raises" (P := fun w => XO w = XO (W0 w)) lemA1a lemA1b
def shape (n : Nat) : Nat → Nat → Nat → BT → Bool
  | 0, _, _, .nil => true
  | 0, _, _, .node .. => false
  | _ + 1, _, b, .nil => !Nat.blt b n
  | k + 1, a, b, .node _ l r => Nat.blt b n && (shape n k (2 * a) (a + b) l && shape n k (2 * a) (2 * a + b) r)
theorem shape_eq {n : Nat} {F : Nat → Obj} : ∀ (k a b : Nat) (t : BT), shape n k a b t = true → (∀ i o, t.get i = some o → F (a * i + b) = o) → t = treeOf F n k a b
  | 0, _, _, .nil, _, _ => rfl
  | 0, _, _, .node .., h, _ => by cases h
  | k + 1, a, b, .nil, h, _ => by
    have : Nat.blt b n = false := by simpa [shape] using h
    unfold treeOf
    rw [this]
  | k + 1, a, b, .node v l r, h, g => by
    simp only [shape, Bool.and_eq_true] at h
    unfold treeOf
    rw [h.1]
    have e0 := g 0 v (by rw [BT.get_node, if_pos rfl])
    rw [Nat.mul_zero, Nat.zero_add] at e0
    rw [← e0]
    have el := shape_eq (F := F) k (2 * a) (a + b) l h.2.1 fun i o hi => by
      have := g (2 * i + 1) o (by rw [BT.get_node, if_neg (by omega), if_pos (by omega), show (2 * i + 1) / 2 = i by omega]; exact hi)
      rw [← this]
      congr 1
      rw [Nat.mul_add, Nat.mul_one, Nat.mul_comm 2 a, Nat.mul_assoc]; omega
    have er := shape_eq (F := F) k (2 * a) (2 * a + b) r h.2.2 fun i o hi => by
      have := g (2 * i + 2) o (by rw [BT.get_node, if_neg (by omega), if_neg (by omega), show (2 * i + 2) / 2 - 1 = i by omega]; exact hi)
      rw [← this]
      congr 1
      rw [Nat.mul_add, Nat.mul_comm 2 a, Nat.mul_assoc]; omega
    rw [← el, ← er]
theorem shape_at {n : Nat} {t : BT} {k : Nat} (h : shape n k 1 0 t = true) : t = treeOf (fun i => (t.get i).getD default) n k 1 0 :=
  shape_eq k 1 0 t h fun i o e => by rw [Nat.one_mul, Nat.add_zero, e]; rfl
def stackOk : List Frame → Bool
  | .ret .. :: _ => true
  | _ => false
theorem lemA2 : ∀ w : World, (XO (W0 w)).map (fun x => (shape 72 10 1 0 x.1.tree, x.1.n, x.1.toks, x.1.tree.get 69, x.1.tree.get 70, x.1.tree.get 71, x.2.cur, x.2.code, stackOk x.2.stack)) =
    some (true, 72, 450, some lst69, some (setJ (bOf w) 1 1 7 0), some (itJ 1), Fast.tw11892475500146522536 Fast.tw14364793385576792824 lpCode, lpCode, true) := fun w => by kernel_rfl
theorem treeOf_congr {f g : Nat → Obj} (h : ∀ i, f i = g i) (n k a b : Nat) : treeOf f n k a b = treeOf g n k a b := by rw [show f = g from funext h]
theorem lemA3 {b : Bool} {x : SharedT × Thread} (e : (shape 72 10 1 0 x.1.tree, x.1.n, x.1.toks, x.1.tree.get 69, x.1.tree.get 70, x.1.tree.get 71, x.2.cur, x.2.code, stackOk x.2.stack) =
    (true, 72, 450, some lst69, some (setJ b 1 1 7 0), some (itJ 1), Fast.tw11892475500146522536 Fast.tw14364793385576792824 lpCode, lpCode, true)) : ∃ B, bgOf x = some B ∧ x = at_ B b 1 1 7 0 := by
  obtain ⟨⟨T, n, life, gens, drawn, toks, os⟩, ⟨cur, code, pos, stack⟩⟩ := x
  simp only [Prod.mk.injEq] at e
  obtain ⟨e1, rfl, rfl, e2, e3, e4, rfl, rfl, e5⟩ := e
  cases stack with
  | nil => cases e5
  | cons f rest =>
    cases f with
    | gen => cases e5
    | ret k h g l c p kept =>
      refine ⟨_, rfl, ?_⟩
      show (SharedT.mk T 72 life gens drawn 450 os, _) = (SharedT.mk (treeOf _ 72 10 1 0) 72 life gens drawn 450 os, _)
      congr 2
      refine (shape_at e1).trans (treeOf_congr (fun i => ?_) 72 10 1 0)
      simp only [fO, BT.beq_eq]
      by_cases h70 : i = 70
      · subst h70; simp [e3]
      · by_cases h71 : i = 71
        · subst h71; simp [e4]
        · by_cases h69 : i = 69
          · subst h69; simp [e2]
          · simp [h70, h71, h69]
theorem lemA (w : World) : ∃ B, BG w = some B ∧ XO w = some (at_ B (bOf w) 1 1 7 0) := by
  obtain ⟨x, h1, h2⟩ := Option.map_eq_some_iff.mp (lemA2 w)
  obtain ⟨B, h3, h4⟩ := lemA3 (b := bOf w) h2
  refine ⟨B, ?_, ?_⟩
  · unfold BG; rw [h1]; exact h3
  · rw [lemA1 w, h1]; exact congrArg some h4
end Zd

namespace Zd
open PySem PySem.W PyProof.Rows
def qv : Program := view P0 [0, 24]
def looseV : List Str := [Str.ofString "_wall", Str.ofString "c6_set", Str.ofString "in_table_c6", Str.ofString "c7_set", Str.ofString "in_table_c7", Str.ofString "c9_set", Str.ofString "in_table_c9", Str.ofString "add_callers", Str.ofString "count_calls", Str.ofString "tspecials", Str.ofString "_name_disallowed_re", Str.ofString "_value_disallowed_re", Str.ofString "_formatparam", Str.ofString "Headers", Str.ofString "_law_sign", Str.ofString "_law_grown", Str.ofString "_law_by_places", Str.ofString "_law_laid_together", Str.ofString "_law_ways"]
def XtV (s : Shared) : Bool := xlAt qv [] s && recOk [] s
def modsV : List Str := importedModules P0.main.body
noncomputable def endQ (w : World) : Option (Shared × SharedT × Thread) := (fencedQ w).bind fun s₀ => (BG w).bind fun B => (goQ w 1299 (at_ B (bOf w) 97 100 511 3)).map fun x => (s₀, x)
theorem lemZ : ∀ w : World, (endQ w).map (fun x => (through x.2.2, (staticsOk modsV x.1.heap x.2.1.abs.heap && namesBound P0 x.2.1.abs.heap && gensDone x.2.1.abs && laidKept x.1.heap x.2.1.abs.heap), KA.map x.2.1.abs.heap.get?, Fast.tw4187177175401517315 qv looseV modsV XtV true x.2.1.abs)) = some (true, true, (KF w.params).map (fun p => some p.2), openGood qv looseV) := fun w => by kernel_rfl
end Zd

namespace Zd
open PySem PySem.W PyProof.Rows
theorem left : LeftO P0 qv looseV XtV (fun s => KA.map s.heap.get?) (fun w => (KF w.params).map fun p => some p.2) NN true := fun w => by
  obtain ⟨B, hB, hX⟩ := lemA w
  unfold XO at hX
  obtain ⟨s₀, h0, hX⟩ := Option.bind_eq_some_iff.mp hX
  obtain ⟨S, hS, hX⟩ := Option.bind_eq_some_iff.mp hX
  obtain ⟨⟨s₀', x⟩, hE, hZ⟩ := Option.map_eq_some_iff.mp (lemZ w)
  unfold endQ at hE
  obtain ⟨s₀₂, h0', hE⟩ := Option.bind_eq_some_iff.mp hE
  obtain rfl : s₀ = s₀₂ := Option.some.inj (h0.symm.trans h0')
  rw [hB] at hE
  obtain ⟨y, hy, hyx⟩ := Option.map_eq_some_iff.mp (show (goQ w 1299 (at_ B (bOf w) 97 100 511 3)).map (fun x => (s₀, x)) = some (s₀', x) from hE)
  obtain ⟨rfl, rfl⟩ : s₀ = s₀' ∧ y = x := by simpa using hyx
  obtain ⟨z1, z2, z3, z4⟩ : through y.2 = true ∧ (staticsOk modsV s₀.heap y.1.abs.heap && namesBound P0 y.1.abs.heap && gensDone y.1.abs && laidKept s₀.heap y.1.abs.heap) = true ∧ KA.map y.1.abs.heap.get? = (KF w.params).map (fun p => some p.2) ∧ Fast.tw4187177175401517315 qv looseV modsV XtV true y.1.abs = openGood qv looseV := by
    simpa only [Prod.mk.injEq] using hZ
  have o := op_facts w
  rw [h0] at o
  obtain ⟨o1, o2, o3⟩ : (s₀.heap.isNs mainGlobals && s₀.gens.size == 0) = true ∧ s₀.heap.objs.size = 28 ∧ s₀.heap.nsMap mainGlobals "__annotations__" = ann0 := by
    simpa only [Option.map_some, Option.some.injEq, Prod.mk.injEq] using o
  have r1 : runT P0 w 28 ann0 2465 (S, topStub P0) = some (at_ B (bOf w) 1 1 7 0) := by rw [← runQ_eq]; exact hX
  have r2 := goT w B (bOf w)
  have r3 : runT P0 w 28 ann0 1299 (at_ B (bOf w) 97 100 511 3) = some y := by rw [← runQ_eq]; exact hy
  have r : runT P0 w 28 ann0 (2465 + (1926 + 1299)) (S, topStub P0) = some y := by
    rw [runT_add _ _ _ _ r1, runT_add _ _ _ _ r2, r3]
  have t := runT_top _ 6309 S y.1 (topStub P0) y.2 r z1
  rw [startT_spec hS] at t
  have tF : topFrom treeTable P0 w NN s₀ = some y.1.abs := by
    unfold topFrom
    rw [o1, o2, o3]
    show (topRun treeTable P0 w 28 ann0 NN s₀ (topStub P0)).bind _ = _
    rw [show NN = 2465 + (1926 + 1299) + 6309 + 1 from rfl, t]
    show (match staticsOk (importedModules P0.main.body) s₀.heap y.1.abs.heap && namesBound P0 y.1.abs.heap && gensDone y.1.abs && laidKept s₀.heap y.1.abs.heap with | true => some y.1.abs | false => none) = _
    rw [show (staticsOk (importedModules P0.main.body) s₀.heap y.1.abs.heap && namesBound P0 y.1.abs.heap && gensDone y.1.abs && laidKept s₀.heap y.1.abs.heap) = true from z2]
  unfold openEnds
  rw [← fencedQ_eq, h0]
  show (topFrom treeTable P0 w NN s₀).map _ = _
  rw [tF]
  refine congrArg some (Prod.ext ?_ z3)
  rw [Fast.te4187177175401517315]
  exact z4
end Zd

open PySem PySem.W PyProof.Rows
theorem Zd.hY (w : World) (s : Shared) (e : Zd.KA.map s.heap.get? = (Zd.KF w.params).map fun p => some p.2) : InK Zd.KF w s.heap := InK.of (fun _ => by kernel_rfl) w s e
set_option maxHeartbeats 8000000 in
theorem PySem.Challenge.cw_zd0012_01_holds : PySem.Challenge.rw_zd0012_01.Holds := by
  w_on
  o_law
  refine holds_open (q := Zd.qv) (loose := Zd.looseV) (Xt := Zd.XtV) (XP := XL Zd.qv []) (YP := InK Zd.KF) (N := Zd.NN) Zd.left Zd.hY InK.keeps (fun s e => xl_of s (Bool.and_eq_true_iff.mp e).1) XL.keeps (by rfl) (by rfl) (by rfl) (fun s e => recFacts_of (Bool.and_eq_true_iff.mp e).2) (by rfl) (by first | assumption | decide +kernel) (by decide +kernel) ⟨rfl, rfl, rfl, rfl, rfl, by decide +kernel⟩ ?hw ?hc
  case hw => w_witness2
  case hc =>
    intro w s₀ s₁ mg mb G Y a o pm cd doc dV kV ho hd hcd hD hmg hg args vals as hpre hlay hrd hwl hlo
    refine Ground.open G ?_
    intro T B D TE TW
    wrow_args hpre hlay hrd hwl hlo
    rename_i ns hs hlay0 hL hr hl2 as1 as2 b ws as3 hIL ra w1 r0 hI hrr hc1 hc2
    have Bs : Zd.Base w s₁.heap := ⟨Y, ⟨mb, T.b, T.builtins⟩, T.nolimit⟩
    have ha : a = 276 := Zd.callAt Bs T.g hmg
    subst ha
    have hz : ns.length ≤ 63 := Int.ofNat_le.mp (Int.not_lt.mp hc1)
    exact Zd.endG Zd.plain1 Zd.plain2 Bs hIL hI hz hg _
