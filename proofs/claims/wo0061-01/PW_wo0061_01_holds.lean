import PyProof.Rows.All
import Wide.All
import OpenK.AllK
import Wide.FinOn
import PySem.Challenge.RW_wo0061_01
set_option Elab.async false
section
local macro_rules | `(tactic| walk_at $s:str) => `(tactic| k_extra $s)
section
open PySem PySem.W PyProof.Rows
namespace Mine
abbrev P : Program := PySem.Challenge.pw_wo0061_01
noncomputable def partsOf (i : Nat) : Arguments × List Stmt × Scope := match P.main.body[i]? with
  | some (.FunctionDef _ a b _ _ _ s _ _ _) => (a, b, s)
  | _ => default
noncomputable def vw : Program := view P [1, 2, 4, 5, 6, 8, 9, 10, 13, 15, 17, 18, 19, 20, 21, 22, 23, 24, 25]
noncomputable def loose : List Str := [Str.ofString "b1_set", Str.ofString "b3_exceptions"]
set_option maxRecDepth 100000 in
set_option maxHeartbeats 4000000 in
noncomputable def KK : Params → Frag :=
  (fun (a2 : Arguments) (b2 : List Stmt) (s2 : Scope) (_ : partsOf 2 = (a2, b2, s2)) (a4 : Arguments) (b4 : List Stmt) (s4 : Scope) (_ : partsOf 4 = (a4, b4, s4)) (a6 : Arguments) (b6 : List Stmt) (s6 : Scope) (_ : partsOf 6 = (a6, b6, s6)) (a8 : Arguments) (b8 : List Stmt) (s8 : Scope) (_ : partsOf 8 = (a8, b8, s8)) (a9 : Arguments) (b9 : List Stmt) (s9 : Scope) (_ : partsOf 9 = (a9, b9, s9)) (a10 : Arguments) (b10 : List Stmt) (s10 : Scope) (_ : partsOf 10 = (a10, b10, s10)) (a13 : Arguments) (b13 : List Stmt) (s13 : Scope) (_ : partsOf 13 = (a13, b13, s13)) (a15 : Arguments) (b15 : List Stmt) (s15 : Scope) (_ : partsOf 15 = (a15, b15, s15)) (a17 : Arguments) (b17 : List Stmt) (s17 : Scope) (_ : partsOf 17 = (a17, b17, s17)) (a18 : Arguments) (b18 : List Stmt) (s18 : Scope) (_ : partsOf 18 = (a18, b18, s18)) (a19 : Arguments) (b19 : List Stmt) (s19 : Scope) (_ : partsOf 19 = (a19, b19, s19)) (a20 : Arguments) (b20 : List Stmt) (s20 : Scope) (_ : partsOf 20 = (a20, b20, s20)) (a21 : Arguments) (b21 : List Stmt) (s21 : Scope) (_ : partsOf 21 = (a21, b21, s21)) (a22 : Arguments) (b22 : List Stmt) (s22 : Scope) (_ : partsOf 22 = (a22, b22, s22)) (a23 : Arguments) (b23 : List Stmt) (s23 : Scope) (_ : partsOf 23 = (a23, b23, s23)) (a24 : Arguments) (b24 : List Stmt) (s24 : Scope) (_ : partsOf 24 = (a24, b24, s24)) (a25 : Arguments) (b25 : List Stmt) (s25 : Scope) (_ : partsOf 25 = (a25, b25, s25)) => fun (P : Params) =>
    (nat_lit 2, ⟨.none, none, (.dict (List.toArray []) 0), #[]⟩) ::
    (nat_lit 3, ⟨.type "dict", none, (.dict (List.toArray [⟨PyData.keyHash P (.ofString "__name__"), .str (.ofString "__name__") 165, .str (.ofString "law_wo0061_01") 2283⟩, ⟨PyData.keyHash P (.ofString "__doc__"), .str (.ofString "__doc__") 166, .none⟩, ⟨PyData.keyHash P (.ofString "__package__"), .str (.ofString "__package__") 167, .none⟩, ⟨PyData.keyHash P (.ofString "__loader__"), .str (.ofString "__loader__") 168, .builtin "__main__.__loader__#opaque"⟩, ⟨PyData.keyHash P (.ofString "__spec__"), .str (.ofString "__spec__") 169, .none⟩, ⟨PyData.keyHash P (.ofString "__annotations__"), .str (.ofString "__annotations__") 170, .ref 6⟩, ⟨PyData.keyHash P (.ofString "__builtins__"), .str (.ofString "__builtins__") 171, .ref 4⟩, ⟨PyData.keyHash P (.ofString "__file__"), .str (.ofString "__file__") 173, .str (.ofString "/claim/cut.py") 172⟩, ⟨PyData.keyHash P (.ofString "__cached__"), .str (.ofString "__cached__") 174, .none⟩, ⟨PyData.keyHash P (.ofString "ELLIPSIS_MARKER"), .str (.ofString "ELLIPSIS_MARKER") 190, .str (.ofString "...") 189⟩, ⟨PyData.keyHash P (.ofString "_ellipsis_match"), .str (.ofString "_ellipsis_match") 202, .ref 21⟩, ⟨PyData.keyHash P (.ofString "_strcoll"), .str (.ofString "_strcoll") 212, .ref 28⟩, ⟨PyData.keyHash P (.ofString "CHAR_MAX"), .str (.ofString "CHAR_MAX") 214, .int 127 213⟩, ⟨PyData.keyHash P (.ofString "_grouping_intervals"), .str (.ofString "_grouping_intervals") 223, .ref 35⟩, ⟨PyData.keyHash P (.ofString "concat"), .str (.ofString "concat") 234, .ref 42⟩, ⟨PyData.keyHash P (.ofString "countOf"), .str (.ofString "countOf") 244, .ref 49⟩, ⟨PyData.keyHash P (.ofString "indexOf"), .str (.ofString "indexOf") 254, .ref 56⟩, ⟨PyData.keyHash P (.ofString "b1_set"), .str (.ofString "b1_set") 316, .ref 64⟩, ⟨PyData.keyHash P (.ofString "in_table_b1"), .str (.ofString "in_table_b1") 323, .ref 74⟩, ⟨PyData.keyHash P (.ofString "b3_exceptions"), .str (.ofString "b3_exceptions") 2274, .ref 75⟩, ⟨PyData.keyHash P (.ofString "map_table_b3"), .str (.ofString "map_table_b3") 2282, .ref 120⟩, ⟨PyData.keyHash P (.ofString "_law_drawn"), .str (.ofString "_law_drawn") 2290, .ref 125⟩, ⟨PyData.keyHash P (.ofString "_law_order"), .str (.ofString "_law_order") 2300, .ref 132⟩, ⟨PyData.keyHash P (.ofString "_law_letter"), .str (.ofString "_law_letter") 2308, .ref 139⟩, ⟨PyData.keyHash P (.ofString "_law_unseen"), .str (.ofString "_law_unseen") 2315, .ref 146⟩, ⟨PyData.keyHash P (.ofString "_law_typed"), .str (.ofString "_law_typed") 2329, .ref 153⟩, ⟨PyData.keyHash P (.ofString "_law_read"), .str (.ofString "_law_read") 2338, .ref 160⟩, ⟨PyData.keyHash P (.ofString "_law_weave"), .str (.ofString "_law_weave") 2344, .ref 165⟩, ⟨PyData.keyHash P (.ofString "_law_unweave"), .str (.ofString "_law_unweave") 2350, .ref 170⟩, ⟨PyData.keyHash P (.ofString "law"), .str (.ofString "law") 2356, .ref 175⟩]) 30), #[]⟩) ::
    (nat_lit 6, ⟨.type "dict", none, (.dict (List.toArray []) 0), #[]⟩) ::
    (nat_lit 15, ⟨.type "tuple", none, (.seq #[] 0), #[]⟩) ::
    (nat_lit 17, ⟨.type "tuple", none, (.seq #[.str (.ofString "want") 194, .str (.ofString "got") 195, .str (.ofString "ws") 196, .str (.ofString "startpos") 197, .str (.ofString "endpos") 198, .str (.ofString "w") 199] 0), #[]⟩) ::
    (nat_lit 18, ⟨.type "tuple", none, (.seq #[] 0), #[]⟩) ::
    (nat_lit 20, ⟨.type "code", none, (.fields #[.str (.ofString "_ellipsis_match") 191, .str (.ofString "_ellipsis_match") 192, .str (.ofString "/claim/cut.py") 193, .int 3 0, .int 2 0, .int 0 0, .int 0 0, .int 3 0, .ref 15, .bool true, .int 181 0, .ref 16, .none, .ref 17, .ref 18, .ref 19, .int 200 0, .int 3 0, .str (.ofString "/claim/cut.py") 201]), #[]⟩) ::
    (nat_lit 21, ⟨.type "function", none, (.func ⟨(.ofString "_ellipsis_match"), (.ofString "_ellipsis_match"), a2, .stmts b2, s2, 3, [], .none, .none, .none, .str (.ofString "cpy313.doctest") 187, none, .ref 20, .none, 0⟩), #[]⟩) ::
    (nat_lit 22, ⟨.type "tuple", none, (.seq #[] 0), #[]⟩) ::
    (nat_lit 24, ⟨.type "tuple", none, (.seq #[.str (.ofString "a") 208, .str (.ofString "b") 209] 0), #[]⟩) ::
    (nat_lit 25, ⟨.type "tuple", none, (.seq #[] 0), #[]⟩) ::
    (nat_lit 27, ⟨.type "code", none, (.fields #[.str (.ofString "_strcoll") 205, .str (.ofString "_strcoll") 206, .str (.ofString "/claim/cut.py") 207, .int 32 0, .int 2 0, .int 0 0, .int 0 0, .int 3 0, .ref 22, .bool true, .int 181 0, .ref 23, .none, .ref 24, .ref 25, .ref 26, .int 210 0, .int 32 0, .str (.ofString "/claim/cut.py") 211]), #[]⟩) ::
    (nat_lit 28, ⟨.type "function", none, (.func ⟨(.ofString "_strcoll"), (.ofString "_strcoll"), a4, .stmts b4, s4, 3, [], .none, .none, .none, .str (.ofString "cpy313.locale") 203, none, .ref 27, .none, 0⟩), #[]⟩) ::
    (nat_lit 29, ⟨.type "tuple", none, (.seq #[] 0), #[]⟩) ::
    (nat_lit 31, ⟨.type "tuple", none, (.seq #[.str (.ofString "grouping") 218, .str (.ofString "last_interval") 219, .str (.ofString "interval") 220] 0), #[]⟩) ::
    (nat_lit 32, ⟨.type "tuple", none, (.seq #[] 0), #[]⟩) ::
    (nat_lit 34, ⟨.type "code", none, (.fields #[.str (.ofString "_grouping_intervals") 215, .str (.ofString "_grouping_intervals") 216, .str (.ofString "/claim/cut.py") 217, .int 35 0, .int 1 0, .int 0 0, .int 0 0, .int 35 0, .ref 29, .bool true, .int 181 0, .ref 30, .none, .ref 31, .ref 32, .ref 33, .int 221 0, .int 35 0, .str (.ofString "/claim/cut.py") 222]), #[]⟩) ::
    (nat_lit 35, ⟨.type "function", none, (.func ⟨(.ofString "_grouping_intervals"), (.ofString "_grouping_intervals"), a6, .stmts b6, s6, 3, [], .none, .none, .none, .str (.ofString "cpy313.locale") 203, none, .ref 34, .none, 0⟩), #[]⟩) ::
    (nat_lit 36, ⟨.type "tuple", none, (.seq #[] 0), #[]⟩) ::
    (nat_lit 38, ⟨.type "tuple", none, (.seq #[.str (.ofString "a") 229, .str (.ofString "b") 230, .str (.ofString "msg") 231] 0), #[]⟩) ::
    (nat_lit 39, ⟨.type "tuple", none, (.seq #[] 0), #[]⟩) ::
    (nat_lit 41, ⟨.type "code", none, (.fields #[.str (.ofString "concat") 226, .str (.ofString "concat") 227, .str (.ofString "/claim/cut.py") 228, .int 48 0, .int 2 0, .int 0 0, .int 0 0, .int 3 0, .ref 36, .bool true, .int 181 0, .ref 37, .none, .ref 38, .ref 39, .ref 40, .int 232 0, .int 48 0, .str (.ofString "/claim/cut.py") 233]), #[]⟩) ::
    (nat_lit 42, ⟨.type "function", none, (.func ⟨(.ofString "concat"), (.ofString "concat"), a8, .stmts b8, s8, 3, [], .none, .none, .none, .str (.ofString "cpy313.operator") 224, none, .ref 41, .none, 0⟩), #[]⟩) ::
    (nat_lit 43, ⟨.type "tuple", none, (.seq #[] 0), #[]⟩) ::
    (nat_lit 45, ⟨.type "tuple", none, (.seq #[.str (.ofString "a") 238, .str (.ofString "b") 239, .str (.ofString "count") 240, .str (.ofString "i") 241] 0), #[]⟩) ::
    (nat_lit 46, ⟨.type "tuple", none, (.seq #[] 0), #[]⟩) ::
    (nat_lit 48, ⟨.type "code", none, (.fields #[.str (.ofString "countOf") 235, .str (.ofString "countOf") 236, .str (.ofString "/claim/cut.py") 237, .int 53 0, .int 2 0, .int 0 0, .int 0 0, .int 3 0, .ref 43, .bool true, .int 181 0, .ref 44, .none, .ref 45, .ref 46, .ref 47, .int 242 0, .int 53 0, .str (.ofString "/claim/cut.py") 243]), #[]⟩) ::
    (nat_lit 49, ⟨.type "function", none, (.func ⟨(.ofString "countOf"), (.ofString "countOf"), a9, .stmts b9, s9, 3, [], .none, .none, .none, .str (.ofString "cpy313.operator") 224, none, .ref 48, .none, 0⟩), #[]⟩) ::
    (nat_lit 50, ⟨.type "tuple", none, (.seq #[] 0), #[]⟩) ::
    (nat_lit 52, ⟨.type "tuple", none, (.seq #[.str (.ofString "a") 248, .str (.ofString "b") 249, .str (.ofString "i") 250, .str (.ofString "j") 251] 0), #[]⟩) ::
    (nat_lit 53, ⟨.type "tuple", none, (.seq #[] 0), #[]⟩) ::
    (nat_lit 55, ⟨.type "code", none, (.fields #[.str (.ofString "indexOf") 245, .str (.ofString "indexOf") 246, .str (.ofString "/claim/cut.py") 247, .int 59 0, .int 2 0, .int 0 0, .int 0 0, .int 3 0, .ref 50, .bool true, .int 181 0, .ref 51, .none, .ref 52, .ref 53, .ref 54, .int 252 0, .int 59 0, .str (.ofString "/claim/cut.py") 253]), #[]⟩) ::
    (nat_lit 56, ⟨.type "function", none, (.func ⟨(.ofString "indexOf"), (.ofString "indexOf"), a10, .stmts b10, s10, 3, [], .none, .none, .none, .str (.ofString "cpy313.operator") 224, none, .ref 55, .none, 0⟩), #[]⟩) ::
    (nat_lit 64, ⟨.type "set", none, (.set #[(65024, .int 65024 273), (65025, .int 65025 274), (65026, .int 65026 275), (65027, .int 65027 276), (65028, .int 65028 277), (65029, .int 65029 278), (6150, .int 6150 259), (65030, .int 65030 279), (65031, .int 65031 280), (65032, .int 65032 281), (65033, .int 65033 282), (6155, .int 6155 260), (6156, .int 6156 261), (6157, .int 6157 262), (8203, .int 8203 263), (8204, .int 8204 264), (8205, .int 8205 265), (65034, .int 65034 283), (65035, .int 65035 284), (65036, .int 65036 285), (65037, .int 65037 286), (65038, .int 65038 287), (65039, .int 65039 288), (173, .int 173 257), (847, .int 847 258), (8288, .int 8288 266), (65279, .int 65279 267)] 29 ⟨127, #[0, 1, 2, 3, 4, 5, 6, 7, 8, 9, 10, 11, 12, 13, 14, 15, 16, 17, 18, 19, 20, 21, 22, 45, 79, 96, 127], #[], 0, !P.followText "set-order", 2, true⟩), #[]⟩) ::
    (nat_lit 68, ⟨.type "tuple", none, (.seq #[] 0), #[]⟩) ::
    (nat_lit 70, ⟨.type "tuple", none, (.seq #[.str (.ofString "code") 320] 0), #[]⟩) ::
    (nat_lit 71, ⟨.type "tuple", none, (.seq #[] 0), #[]⟩) ::
    (nat_lit 73, ⟨.type "code", none, (.fields #[.str (.ofString "in_table_b1") 317, .str (.ofString "in_table_b1") 318, .str (.ofString "/claim/cut.py") 319, .int 67 0, .int 1 0, .int 0 0, .int 0 0, .int 3 0, .ref 68, .bool true, .int 181 0, .ref 69, .none, .ref 70, .ref 71, .ref 72, .int 321 0, .int 67 0, .str (.ofString "/claim/cut.py") 322]), #[]⟩) ::
    (nat_lit 74, ⟨.type "function", none, (.func ⟨(.ofString "in_table_b1"), (.ofString "in_table_b1"), a13, .stmts b13, s13, 3, [], .none, .none, .none, .str (.ofString "cpy313.stringprep") 255, none, .ref 73, .none, 0⟩), #[]⟩) ::
    (nat_lit 114, ⟨.type "tuple", none, (.seq #[] 0), #[]⟩) ::
    (nat_lit 116, ⟨.type "tuple", none, (.seq #[.str (.ofString "code") 2278, .str (.ofString "r") 2279] 0), #[]⟩) ::
    (nat_lit 117, ⟨.type "tuple", none, (.seq #[] 0), #[]⟩) ::
    (nat_lit 119, ⟨.type "code", none, (.fields #[.str (.ofString "map_table_b3") 2275, .str (.ofString "map_table_b3") 2276, .str (.ofString "/claim/cut.py") 2277, .int 70 0, .int 1 0, .int 0 0, .int 0 0, .int 3 0, .ref 114, .bool true, .int 181 0, .ref 115, .none, .ref 116, .ref 117, .ref 118, .int 2280 0, .int 70 0, .str (.ofString "/claim/cut.py") 2281]), #[]⟩) ::
    (nat_lit 120, ⟨.type "function", none, (.func ⟨(.ofString "map_table_b3"), (.ofString "map_table_b3"), a15, .stmts b15, s15, 3, [], .none, .none, .none, .str (.ofString "cpy313.stringprep") 255, none, .ref 119, .none, 0⟩), #[]⟩) ::
    (nat_lit 121, ⟨.type "tuple", none, (.seq #[] 0), #[]⟩) ::
    (nat_lit 124, ⟨.type "code", none, (.fields #[.str (.ofString "_law_drawn") 2285, .str (.ofString "_law_drawn") 2286, .str (.ofString "/claim/cut.py") 2287, .int 76 0, .int 1 0, .int 0 0, .int 0 0, .int 3 0, .ref 121, .bool true, .int 181 0, .ref 122, .none, .none, .none, .ref 123, .int 2288 0, .int 76 0, .str (.ofString "/claim/cut.py") 2289]), #[]⟩) ::
    (nat_lit 125, ⟨.type "function", none, (.func ⟨(.ofString "_law_drawn"), (.ofString "_law_drawn"), a17, .stmts b17, s17, 3, [], .none, .none, .none, .str (.ofString "law_wo0061_01") 2283, none, .ref 124, .none, 0⟩), #[]⟩) ::
    (nat_lit 126, ⟨.type "tuple", none, (.seq #[] 0), #[]⟩) ::
    (nat_lit 128, ⟨.type "tuple", none, (.seq #[.str (.ofString "drawn") 2294, .str (.ofString "pool") 2295, .str (.ofString "order") 2296, .str (.ofString "k") 2297] 0), #[]⟩) ::
    (nat_lit 129, ⟨.type "tuple", none, (.seq #[] 0), #[]⟩) ::
    (nat_lit 131, ⟨.type "code", none, (.fields #[.str (.ofString "_law_order") 2291, .str (.ofString "_law_order") 2292, .str (.ofString "/claim/cut.py") 2293, .int 80 0, .int 1 0, .int 0 0, .int 0 0, .int 3 0, .ref 126, .bool true, .int 181 0, .ref 127, .none, .ref 128, .ref 129, .ref 130, .int 2298 0, .int 80 0, .str (.ofString "/claim/cut.py") 2299]), #[]⟩) ::
    (nat_lit 132, ⟨.type "function", none, (.func ⟨(.ofString "_law_order"), (.ofString "_law_order"), a18, .stmts b18, s18, 3, [], .none, .none, .none, .str (.ofString "law_wo0061_01") 2283, none, .ref 131, .none, 0⟩), #[]⟩) ::
    (nat_lit 133, ⟨.type "tuple", none, (.seq #[] 0), #[]⟩) ::
    (nat_lit 135, ⟨.type "tuple", none, (.seq #[.str (.ofString "letter") 2304, .str (.ofString "way") 2305] 0), #[]⟩) ::
    (nat_lit 136, ⟨.type "tuple", none, (.seq #[] 0), #[]⟩) ::
    (nat_lit 138, ⟨.type "code", none, (.fields #[.str (.ofString "_law_letter") 2301, .str (.ofString "_law_letter") 2302, .str (.ofString "/claim/cut.py") 2303, .int 86 0, .int 2 0, .int 0 0, .int 0 0, .int 3 0, .ref 133, .bool true, .int 181 0, .ref 134, .none, .ref 135, .ref 136, .ref 137, .int 2306 0, .int 86 0, .str (.ofString "/claim/cut.py") 2307]), #[]⟩) ::
    (nat_lit 139, ⟨.type "function", none, (.func ⟨(.ofString "_law_letter"), (.ofString "_law_letter"), a19, .stmts b19, s19, 3, [], .none, .none, .none, .str (.ofString "law_wo0061_01") 2283, none, .ref 138, .none, 0⟩), #[]⟩) ::
    (nat_lit 140, ⟨.type "tuple", none, (.seq #[] 0), #[]⟩) ::
    (nat_lit 142, ⟨.type "tuple", none, (.seq #[.str (.ofString "figure") 2312] 0), #[]⟩) ::
    (nat_lit 143, ⟨.type "tuple", none, (.seq #[] 0), #[]⟩) ::
    (nat_lit 145, ⟨.type "code", none, (.fields #[.str (.ofString "_law_unseen") 2309, .str (.ofString "_law_unseen") 2310, .str (.ofString "/claim/cut.py") 2311, .int 92 0, .int 1 0, .int 0 0, .int 0 0, .int 3 0, .ref 140, .bool true, .int 181 0, .ref 141, .none, .ref 142, .ref 143, .ref 144, .int 2313 0, .int 92 0, .str (.ofString "/claim/cut.py") 2314]), #[]⟩) ::
    (nat_lit 146, ⟨.type "function", none, (.func ⟨(.ofString "_law_unseen"), (.ofString "_law_unseen"), a20, .stmts b20, s20, 3, [], .none, .none, .none, .str (.ofString "law_wo0061_01") 2283, none, .ref 145, .none, 0⟩), #[]⟩) ::
    (nat_lit 147, ⟨.type "tuple", none, (.seq #[] 0), #[]⟩) ::
    (nat_lit 149, ⟨.type "tuple", none, (.seq #[.str (.ofString "plain") 2319, .str (.ofString "drawn") 2320, .str (.ofString "joined") 2321, .str (.ofString "text") 2322, .str (.ofString "place") 2323, .str (.ofString "way") 2324, .str (.ofString "part") 2325, .str (.ofString "size") 2326] 0), #[]⟩) ::
    (nat_lit 150, ⟨.type "tuple", none, (.seq #[] 0), #[]⟩) ::
    (nat_lit 152, ⟨.type "code", none, (.fields #[.str (.ofString "_law_typed") 2316, .str (.ofString "_law_typed") 2317, .str (.ofString "/claim/cut.py") 2318, .int 98 0, .int 2 0, .int 0 0, .int 0 0, .int 3 0, .ref 147, .bool true, .int 181 0, .ref 148, .none, .ref 149, .ref 150, .ref 151, .int 2327 0, .int 98 0, .str (.ofString "/claim/cut.py") 2328]), #[]⟩) ::
    (nat_lit 153, ⟨.type "function", none, (.func ⟨(.ofString "_law_typed"), (.ofString "_law_typed"), a21, .stmts b21, s21, 3, [], .none, .none, .none, .str (.ofString "law_wo0061_01") 2283, none, .ref 152, .none, 0⟩), #[]⟩) ::
    (nat_lit 154, ⟨.type "tuple", none, (.seq #[] 0), #[]⟩) ::
    (nat_lit 156, ⟨.type "tuple", none, (.seq #[.str (.ofString "text") 2333, .str (.ofString "word") 2334, .str (.ofString "sign") 2335] 0), #[]⟩) ::
    (nat_lit 157, ⟨.type "tuple", none, (.seq #[] 0), #[]⟩) ::
    (nat_lit 159, ⟨.type "code", none, (.fields #[.str (.ofString "_law_read") 2330, .str (.ofString "_law_read") 2331, .str (.ofString "/claim/cut.py") 2332, .int 116 0, .int 1 0, .int 0 0, .int 0 0, .int 3 0, .ref 154, .bool true, .int 181 0, .ref 155, .none, .ref 156, .ref 157, .ref 158, .int 2336 0, .int 116 0, .str (.ofString "/claim/cut.py") 2337]), #[]⟩) ::
    (nat_lit 160, ⟨.type "function", none, (.func ⟨(.ofString "_law_read"), (.ofString "_law_read"), a22, .stmts b22, s22, 3, [], .none, .none, .none, .str (.ofString "law_wo0061_01") 2283, none, .ref 159, .none, 0⟩), #[]⟩) ::
    (nat_lit 161, ⟨.type "tuple", none, (.seq #[] 0), #[]⟩) ::
    (nat_lit 164, ⟨.type "code", none, (.fields #[.str (.ofString "_law_weave") 2339, .str (.ofString "_law_weave") 2340, .str (.ofString "/claim/cut.py") 2341, .int 122 0, .int 2 0, .int 0 0, .int 0 0, .int 3 0, .ref 161, .bool true, .int 181 0, .ref 162, .none, .none, .none, .ref 163, .int 2342 0, .int 122 0, .str (.ofString "/claim/cut.py") 2343]), #[]⟩) ::
    (nat_lit 165, ⟨.type "function", none, (.func ⟨(.ofString "_law_weave"), (.ofString "_law_weave"), a23, .stmts b23, s23, 3, [], .none, .none, .none, .str (.ofString "law_wo0061_01") 2283, none, .ref 164, .none, 0⟩), #[]⟩) ::
    (nat_lit 166, ⟨.type "tuple", none, (.seq #[] 0), #[]⟩) ::
    (nat_lit 169, ⟨.type "code", none, (.fields #[.str (.ofString "_law_unweave") 2345, .str (.ofString "_law_unweave") 2346, .str (.ofString "/claim/cut.py") 2347, .int 137 0, .int 1 0, .int 0 0, .int 0 0, .int 3 0, .ref 166, .bool true, .int 181 0, .ref 167, .none, .none, .none, .ref 168, .int 2348 0, .int 137 0, .str (.ofString "/claim/cut.py") 2349]), #[]⟩) ::
    (nat_lit 170, ⟨.type "function", none, (.func ⟨(.ofString "_law_unweave"), (.ofString "_law_unweave"), a24, .stmts b24, s24, 3, [], .none, .none, .none, .str (.ofString "law_wo0061_01") 2283, none, .ref 169, .none, 0⟩), #[]⟩) ::
    (nat_lit 171, ⟨.type "tuple", none, (.seq #[] 0), #[]⟩) ::
    (nat_lit 174, ⟨.type "code", none, (.fields #[.str (.ofString "law") 2351, .str (.ofString "law") 2352, .str (.ofString "/claim/cut.py") 2353, .int 153 0, .int 1 0, .int 0 0, .int 0 0, .int 3 0, .ref 171, .bool true, .int 181 0, .ref 172, .none, .none, .none, .ref 173, .int 2354 0, .int 153 0, .str (.ofString "/claim/cut.py") 2355]), #[]⟩) ::
    (nat_lit 175, ⟨.type "function", none, (.func ⟨(.ofString "law"), (.ofString "law"), a25, .stmts b25, s25, 3, [], .none, .none, .none, .str (.ofString "law_wo0061_01") 2283, none, .ref 174, .none, 0⟩), #[]⟩) :: [])
   _ _ _ rfl
   _ _ _ rfl
   _ _ _ rfl
   _ _ _ rfl
   _ _ _ rfl
   _ _ _ rfl
   _ _ _ rfl
   _ _ _ rfl
   _ _ _ rfl
   _ _ _ rfl
   _ _ _ rfl
   _ _ _ rfl
   _ _ _ rfl
   _ _ _ rfl
   _ _ _ rfl
   _ _ _ rfl
   _ _ _ rfl

end Mine
end
theorem Mine.rs1 : True := by k_with_none; w_top off; trivial
section
open PySem PySem.W PyProof.Rows
namespace Mine

structure St where
  tree : BT
  n : Nat
  toks : Nat
noncomputable def St.sh (b : Shared) (x : St) : Shared := ⟨absHeap x.tree x.n b.heap.life, b.gens, b.drawn, x.toks, b.os⟩

noncomputable def evC (den : Code → Sem Fin) (f : Ctx → Sem Fin → Pos → St → Option (Except Value Fin × Pos × St)) : Nat → Ctx → Sem Fin → Pos → St → Option (Result × St)
  | 0, _, _, _, _ => none
  | n + 1, Γ, t, p, x => match f Γ t p x with
    | some (.ok (.done r), _, x') => some (.ok r, x')
    | some (.ok (.again c), p', x') => (match c.quiet with
      | true => evC den f n (Γ.goto c) (den c) p' x'
      | false => none)
    | some (.error e, _, x') => some (.error e, x')
    | none => none

noncomputable def ev (den : Code → Sem Fin) (S : Setting) : Nat → {α : Type} → Ctx → Sem α → Pos → St → Option (Except Value α × Pos × St)
  | 0, _, _, _, _, _ => none
  | n + 1, _, Γ, t, p, x => match t with
    | .pure a => some (.ok a, p, x)
    | .raise e => some (.error e, p, x)
    | .rule _ k => ev den S n Γ (k ()) p x
    | .at p' k => ev den S n Γ (k ()) p' x
    | .point _ k => ev den S n Γ (k ()) p x
    | .load a _ k => match Nat.blt a x.n with
      | true => match x.tree.get a with
        | some o => match alive o with
          | some o' => ev den S n Γ (k o') p x
          | none => none
        | none => none
      | false => none
    | .update a _ f k => match Nat.blt a x.n with
      | true => match x.tree.get a with
        | some o => match alive o with
          | some _ => ev den S n Γ (k ()) p ⟨x.tree.set a f, x.n, x.toks⟩
          | none => none
        | none => none
      | false => none
    | .alloc o k => match ((x.tree.ins x.n o).get x.n).isSome with
      | true => ev den S n Γ (k x.n) p ⟨x.tree.ins x.n o, x.n + 1, x.toks⟩
      | false => none
    | .fresh k => ev den S n Γ (k x.toks) p ⟨x.tree, x.n, x.toks + 1⟩
    | .ask k => ev den S n Γ (k S) p x
    | .handled own k => ev den S n Γ (k (if own then Γ.own else Γ.handled)) p x
    | .stack k => ev den S n Γ (k ((Γ.code, p) :: Γ.below)) p x
    | .thread k => ev den S n Γ (k 0) p x
    | .call c h _ _ k => match evC den (fun Γ t p x => ev den S n Γ t p x) n (Γ.enter c h p) (den c) p x with
      | some (r, x') => ev den S n Γ (k r) p x'
      | none => none
    | _ => none

/-- what an answer of `ev` says -/
noncomputable def Says {α : Type} (b : Shared) (Q : α → Pos → Shared → Prop) (E : Value → Pos → Shared → Prop) : Except Value α × Pos × St → Prop
  | (.ok a, p, x) => Q a p (x.sh b)
  | (.error e, p, x) => E e p (x.sh b)

theorem sh_get {b : Shared} {x : St} {a : Addr} {o o' : Obj} (h : Nat.blt a x.n = true) (g : x.tree.get a = some o) (l : alive o = some o') : (x.sh b).heap.get? a = some o' := by
  have := abs_get (life := b.heap.life) (Nat.le_of_ble_eq_true h : a < x.n) g
  exact this.trans l

theorem evC_sound {M : Model} {b : Shared} {f : Ctx → Sem Fin → Pos → St → Option (Except Value Fin × Pos × St)}
    (hf : ∀ Γ t p x r, f Γ t p x = some r → ∀ (Q : Fin → Pos → Shared → Prop) (E : Value → Pos → Shared → Prop), Says b Q E r → Sem.wp M Γ t Q E p (x.sh b)) :
    ∀ (n : Nat) (Γ : Ctx) (c : Code) (p : Pos) (x : St) (r : Result) (x' : St), Γ.code = c → evC M.den f n Γ (M.den c) p x = some (r, x') →
      ∀ R : Result → Shared → Prop, R r (x'.sh b) → wpCode M Γ R p (x.sh b)
  | 0, _, _, _, _, _, _, _, h => by cases h
  | n + 1, Γ, c, p, x, r, x', hc, h => by
    intro R hR
    subst hc
    rw [wpCode_iff_wp]
    unfold evC at h
    cases e : f Γ (M.den Γ.code) p x with
    | none => rw [e] at h; cases h
    | some q =>
      obtain ⟨v, p', y⟩ := q
      rw [e] at h
      refine hf _ _ _ _ _ e _ _ ?_
      cases v with
      | error e' => cases h; exact hR
      | ok fin =>
        cases fin with
        | done g => cases h; exact hR
        | again c' =>
          dsimp only at h
          cases hq : c'.quiet with
          | false => rw [hq] at h; cases h
          | true =>
            rw [hq] at h
            exact ⟨hq, evC_sound hf n (Γ.goto c') c' p' y r x' rfl h R hR⟩

theorem ev_sound {M : Model} {b : Shared} : ∀ (n : Nat) {α : Type} (Γ : Ctx) (t : Sem α) (p : Pos) (x : St) (r : Except Value α × Pos × St),
    ev M.den ⟨M.prog, M.w.params⟩ n Γ t p x = some r → ∀ (Q : α → Pos → Shared → Prop) (E : Value → Pos → Shared → Prop), Says b Q E r → Sem.wp M Γ t Q E p (x.sh b)
  | 0, _, _, _, _, _, _, h => by cases h
  | n + 1, α, Γ, t, p, x, r, h => by
    intro Q E hs
    unfold ev at h
    cases t with
    | pure a => cases h; exact hs
    | raise e => cases h; exact hs
    | rule tag k => exact ev_sound n Γ _ p x r h Q E hs
    | «at» p' k => exact ev_sound n Γ _ p' x r h Q E hs
    | point l k => exact ev_sound n Γ _ p x r h Q E hs
    | load a part k =>
      dsimp only at h
      cases h1 : Nat.blt a x.n with
      | false => rw [h1] at h; cases h
      | true =>
        rw [h1] at h
        cases h2 : x.tree.get a with
        | none => rw [h2] at h; cases h
        | some o =>
          rw [h2] at h
          cases h3 : alive o with
          | none => dsimp only at h; rw [h3] at h; cases h
          | some o' =>
            dsimp only at h; rw [h3] at h
            exact ⟨o', sh_get h1 h2 h3, ev_sound n Γ _ p x r h Q E hs⟩
    | update a part f k =>
      dsimp only at h
      cases h1 : Nat.blt a x.n with
      | false => rw [h1] at h; cases h
      | true =>
        rw [h1] at h
        cases h2 : x.tree.get a with
        | none => rw [h2] at h; cases h
        | some o =>
          rw [h2] at h
          cases h3 : alive o with
          | none => dsimp only at h; rw [h3] at h; cases h
          | some o' =>
            dsimp only at h; rw [h3] at h
            refine ⟨by rw [sh_get h1 h2 h3]; rfl, ?_⟩
            have := ev_sound n Γ _ p ⟨x.tree.set a f, x.n, x.toks⟩ r h Q E hs
            have e : (St.sh b ⟨x.tree.set a f, x.n, x.toks⟩) = { x.sh b with heap := (x.sh b).heap.update a f } := by
              show Shared.mk _ _ _ _ _ = Shared.mk _ _ _ _ _
              rw [absHeap_set h2]; rfl
            rw [e] at this
            exact this
    | alloc o k =>
      dsimp only at h
      cases h1 : ((x.tree.ins x.n o).get x.n).isSome with
      | false => rw [h1] at h; cases h
      | true =>
        rw [h1] at h
        have := ev_sound n Γ _ p ⟨x.tree.ins x.n o, x.n + 1, x.toks⟩ r h Q E hs
        have e : (St.sh b ⟨x.tree.ins x.n o, x.n + 1, x.toks⟩) = { x.sh b with heap := (x.sh b).heap.push o } := by
          show Shared.mk _ _ _ _ _ = Shared.mk _ _ _ _ _
          rw [absHeap_ins h1]; rfl
        rw [e] at this
        have sz : (x.sh b).heap.objs.size = x.n := absHeap_size _ _ _
        rw [Sem.wp_alloc, sz]
        exact this
    | fresh k => exact ev_sound n Γ _ p ⟨x.tree, x.n, x.toks + 1⟩ r h Q E hs
    | ask k => exact ev_sound n Γ _ p x r h Q E hs
    | handled own k => exact ev_sound n Γ _ p x r h Q E hs
    | stack k => exact ev_sound n Γ _ p x r h Q E hs
    | thread k => exact ev_sound n Γ _ p x r h Q E hs
    | call c hd g l k =>
      dsimp only at h
      rw [Sem.wp_call]
      cases e : evC M.den (fun Γ t p x => ev M.den ⟨M.prog, M.w.params⟩ n Γ t p x) n (Γ.enter c hd p) (M.den c) p x with
      | none => rw [e] at h; cases h
      | some q =>
        obtain ⟨v, y⟩ := q
        rw [e] at h
        exact evC_sound (b := b) (fun Γ t p x r hr => ev_sound n Γ t p x r hr) n (Γ.enter c hd p) c p x v y rfl e _ (ev_sound n Γ _ p y r h Q E hs)
    | _ => cases h
end Mine
end
theorem Mine.rs2 : True := by k_with_none; w_top off; trivial
section
open PySem PySem.W PyProof.Rows
namespace Mine

structure Row where
  i : Int
  x : Str
  k1 : Nat
  p1 : Pos
  k2 : Nat
  p2 : Pos
abbrev Row.prs (env : Env) (pos : Pos) (r : Row) : Sem Value × Sem Value :=
  (eval (.Constant (.int r.i) r.k1 r.p1) env, do let x ← eval (.Constant (.str r.x) r.k2 r.p2) env; standAt pos; pure x)
abbrev Row.itm (env : Env) (pos : Pos) (r : Row) : Option (Sem Value) × Sem Value := (some (r.prs env pos).1, (r.prs env pos).2)
noncomputable def strOf : Value → Option Str
  | .str x _ => some x
  | _ => none
noncomputable def RowsAre (rows : List Row) (kvs : List (Int × Value)) : Prop := kvs.map (fun kv => (kv.1, strOf kv.2)) = rows.map fun r => (r.i, some r.x)
theorem RowsAre.nil : RowsAre [] [] := rfl
theorem RowsAre.append {a b : List Row} {x y : List (Int × Value)} (h : RowsAre a x) (k : RowsAre b y) : RowsAre (a ++ b) (x ++ y) := by
  unfold RowsAre at *; rw [List.map_append, List.map_append, h, k]
theorem RowsAre.length {a : List Row} {x : List (Int × Value)} (h : RowsAre a x) : x.length = a.length := by
  have := congrArg List.length h; simpa using this
theorem RowsAre.keys {a : List Row} {x : List (Int × Value)} (h : RowsAre a x) : x.map (·.1) = a.map (·.i) := by
  have := congrArg (List.map (·.1)) h; rw [List.map_map, List.map_map] at this; exact this
theorem RowsAre.cons {r : Row} {a : List Row} {x : List (Int × Value)} (t : Tok) (h : RowsAre a x) : RowsAre (r :: a) ((r.i, .str r.x t) :: x) := by
  unfold RowsAre at *; rw [List.map_cons, List.map_cons, h]; rfl

section
variable {prog : Program} {w : World} {A : Around} {E : Value → Shared → Prop} {env : Env} {pos : Pos}
abbrev kI (prog : Program) (w : World) := PySem.intKind prog w

theorem long_loop {d : Addr} : ∀ (rows : List Row) (acc : List (Int × Value)) (s : Shared) (Q : PUnit → Shared → Prop), s.heap.DictOf (kI prog w) d acc → acc.length + rows.length ≤ sizeLine →
    (∀ h' kvs, RowsAre rows kvs → h'.DictOf (kI prog w) d (merged acc kvs) → Heap.SameBut d s.heap h' → Q PUnit.unit { s with heap := h', toks := s.toks + 3 * rows.length }) →
    wpAny (model prog w) A (forIn (rows.map (Row.prs env pos)) PUnit.unit fun (x : Sem Value × Sem Value) (_ : PUnit) => (do
      let kv ← x.1
      let vv ← holding [kv] x.2
      holding [kv, vv] (dictSet d kv vv)
      pure (ForInStep.yield PUnit.unit) : Sem (ForInStep PUnit))) Q E s
  | [], acc, s, Q, hm, _, hQ => by
    rw [List.map_nil, List.forIn_nil]
    exact wpAny_pure (by simpa [merged] using hQ s.heap [] RowsAre.nil (by simpa [merged] using hm) (Heap.SameBut.refl _ _))
  | r :: rows, acc, s, Q, hm, hsz, hQ => by
    rw [List.length_cons] at hsz
    rw [List.map_cons, List.forIn_cons]
    refine wpAny_bind (wpAny_bind (wpAny_Constant_int (env := env) (k := r.k1) (pos := r.p1) ?_))
    refine wpAny_bind (wpAny_holding (wpAny_bind (wpAny_Constant_str (env := env) (k := r.k2) (pos := r.p2) (wpAny_bind (wpAny_standAt (wpAny_pure ?_))))))
    refine wpAny_bind (wpAny_holding (wpAny_dictSet_pairs (knd := kI prog w) (k := r.i) (kvs := acc) (hsz := by omega) (by simp [intKind, Value.isInt]) hm fun h₁ hm₁ hs₁ => wpAny_pure ?_))
    refine long_loop rows (stored acc r.i _) _ Q hm₁ (by have e := stored_length_le acc r.i (Value.str r.x (s.toks + 1)); dsimp only; omega) fun h' kvs hr hm' hs' => ?_
    have := hQ h' ((r.i, .str r.x (s.toks + 1)) :: kvs) (hr.cons _) (by simpa [merged] using hm') (hs₁.trans hs')
    have e : s.toks + 3 * (r :: rows).length = s.toks + 1 + 1 + 1 + 3 * rows.length := by rw [List.length_cons]; omega
    rw [e] at this
    exact this

theorem short_eval : ∀ (rows : List Row) (s : Shared) (Q : List (Value × Value) → Shared → Prop),
    (∀ vs kvs, RowsAre rows kvs → Carries (kI prog w) vs kvs → vs.length = rows.length → Q vs { s with toks := s.toks + 2 * rows.length }) →
    wpAny (model prog w) A (evalPairs (rows.map (Row.prs env pos))) Q E s
  | [], s, Q, hQ => evalPairs_nil (by simpa using hQ [] [] RowsAre.nil trivial rfl)
  | r :: rows, s, Q, hQ => by
    rw [List.map_cons]
    refine evalPairs_cons (wpAny_Constant_int (env := env) (k := r.k1) (pos := r.p1) ?_)
    refine wpAny_bind (wpAny_Constant_str (env := env) (k := r.k2) (pos := r.p2) (wpAny_bind (wpAny_standAt (wpAny_pure ?_))))
    refine short_eval rows _ _ fun vs kvs hr hc hl => ?_
    have := hQ ((.int r.i s.toks, .str r.x (s.toks + 1)) :: vs) ((r.i, .str r.x (s.toks + 1)) :: kvs) (hr.cons _) ⟨by simp [intKind, Value.isInt], rfl, hc⟩ (by rw [List.length_cons, List.length_cons, hl])
    have e : s.toks + 2 * (r :: rows).length = s.toks + 1 + 1 + 2 * rows.length := by rw [List.length_cons]; omega
    rw [e] at this
    exact this

theorem sub_ok (rows : List Row) (s : Shared) (Q : Addr → Shared → Prop) (hle : rows.length ≤ 17)
    (hQ : ∀ h' kvs, RowsAre rows kvs → h'.DictOf (kI prog w) s.heap.objs.size (merged [] kvs) → h'.objs.size = s.heap.objs.size + 1 → (∀ b, b < s.heap.objs.size → h'.get? b = s.heap.get? b) → Q s.heap.objs.size { s with heap := h', toks := s.toks + 3 * rows.length }) :
    wpAny (model prog w) A (subDict (rows.map (Row.prs env pos))) Q E s := by
  have old : ∀ b, b < s.heap.objs.size → (s.heap.push { cls := .type "dict", data := .dict #[] }).get? b = s.heap.get? b := fun b hb => Heap.get?_push_ne _ _ _ (Nat.ne_of_lt hb)
  have fin : ∀ h' kvs, RowsAre rows kvs → h'.DictOf (kI prog w) s.heap.objs.size (merged [] kvs) → Heap.SameBut s.heap.objs.size (s.heap.push { cls := .type "dict", data := .dict #[] }) h' → Q s.heap.objs.size { s with heap := h', toks := s.toks + 3 * rows.length } :=
    fun h' kvs hr hm hs => hQ h' kvs hr hm (by rw [hs.1, Heap.size_push]) fun b hb => (hs.2 b (Nat.ne_of_lt hb)).trans (old b hb)
  by_cases h15 : rows.length ≤ 15
  · refine wpAny_subDict (knd := kI prog w) (by rw [List.length_map]; exact h15) ?_
    refine short_eval rows _ _ fun vs kvs hr hc hl => ⟨kvs, hc, Heap.DictOf.new _, fun h' hm hs => ?_⟩
    have := fin h' kvs hr hm hs
    have e : s.toks + 3 * rows.length = s.toks + 2 * rows.length + vs.length := by rw [hl]; omega
    rw [e] at this
    exact this
  · unfold subDict
    refine wpAny_bind (wpAny_alloc ?_)
    refine wpAny_bind (wpAny_holding ?_)
    rw [if_neg (by rw [List.length_map]; exact h15)]
    refine wpAny_bind (wpAny_rule ?_)
    refine wpAny_bind ?_
    refine long_loop rows [] _ _ (Heap.DictOf.new _) (by rw [sizeLine_eq, List.length_nil]; omega) fun h' kvs hr hm hs => ?_
    exact wpAny_pure (wpAny_pure (fin h' kvs hr hm hs))

theorem put_ok {d : Addr} {s : Shared} {kvs : List (Int × Value)} {k : Int} {key v : Value} {Q : Unit → Shared → Prop} (hkey : (kI prog w).is k key = true) (hm : s.heap.DictOf (kI prog w) d kvs)
    (hQ : ∀ h', h'.DictOf (kI prog w) d (stored kvs k v) → Heap.SameBut d s.heap h' → Q () { s with heap := h' }) (hsz : kvs.length ≤ sizeLine) :
    wpAny (model prog w) A (dictPut d ((kI prog w).hash k) key v) Q E s := by
  obtain ⟨o, es, ep, ho, hc, hd, hk, hp, hn⟩ := hm
  have hes : es.size ≤ sizeLine := by
    have e1 := hp.length
    have e2 : es.toList.length = es.size := by simp
    omega
  unfold dictPut
  refine wpAny_bind (wpAny_dictFind_of hkey ho hd hk ?_)
  have hidx : (es.findIdx? fun e => (kI prog w).is k e.key) = kvs.findIdx? fun kv => decide (kv.1 = k) := by
    rw [← hp.findIdx k]; obtain ⟨l⟩ := es; simp
  cases hi : es.findIdx? fun e => (kI prog w).is k e.key with
  | some i =>
    have hany := any_of_findIdx_some (hidx ▸ hi)
    have hl : (es.toList.findIdx? fun e => (kI prog w).is k e.key) = some i := by rw [← hi]; obtain ⟨l⟩ := es; simp
    refine wpAny_updateDict ho hd (hQ _ ⟨_, _, ep, Heap.get?_update_self _ ho (Obj.isFreed_of_dict (Obj.data_mapDict hd _)), hc.mapDict _, Obj.data_mapDict hd _, hk.modify _ _, ?_, ?_⟩ (Heap.SameBut.update ..))
    · rw [stored, if_pos hany]
      have := hp.modify hn hl v
      obtain ⟨l⟩ := es
      simpa using this
    · rw [stored, if_pos hany, keys_map_store]; exact hn
  | none =>
    have hnot : k ∉ kvs.map (·.1) := not_mem_of_findIdx_none (hidx ▸ hi)
    have hany : ¬ (kvs.any fun kv => decide (kv.1 = k)) = true := by
      rw [List.any_eq_true]; rintro ⟨kv, hkv, he⟩
      exact hnot (List.mem_map.mpr ⟨kv, hkv, of_decide_eq_true he⟩)
    refine wpAny_updateDictKeys (hz := hes) ho hd (hQ _ ⟨_, _, ep + 1, Heap.get?_update_self _ ho (Obj.isFreed_of_dict (Obj.data_mapDictKeys hd _)), hc.mapDictKeys _, Obj.data_mapDictKeys hd _, hk.push hkey _, ?_, ?_⟩ (Heap.SameBut.update ..))
    · rw [stored, if_neg hany]
      have := hp.append hkey ((kI prog w).hash k) v
      obtain ⟨l⟩ := es
      simpa using this
    · rw [stored, if_neg hany, List.map_append, List.nodup_append]
      refine ⟨hn, by simp, ?_⟩
      intro a ha b hb
      simp only [List.map_cons, List.map_nil, List.mem_singleton] at hb
      subst hb
      exact fun e => hnot (e ▸ ha)

theorem merge_ok {d o : Addr} {s : Shared} {kvs more : List (Int × Value)} {Q : Unit → Shared → Prop} (hdo : d ≠ o) (hoS : (o == sysModules) = false) (hne : kvs ≠ [])
    (hd : s.heap.DictOf (kI prog w) d kvs) (ho : s.heap.DictOf (kI prog w) o more)
    (hQ : ∀ h', h'.DictOf (kI prog w) d (merged kvs more) → Heap.SameBut d s.heap h' → Q () { s with heap := h' })
    (hsz : kvs.length + more.length ≤ sizeLine) :
    wpAny (model prog w) A (mergeMapping d (.ref o) false) Q E s := by
  obtain ⟨od, esd, epd, hod, hcd, hdd, hkd, hpd, hnd⟩ := id hd
  obtain ⟨oo, eso, epo, hoo, hco, hdo', hko, hpo, hno⟩ := id ho
  unfold mergeMapping
  refine wpAny_bind (wpAny_isInstance ho.typeIs F.sub_dict_dict ?_)
  rw [if_pos rfl]
  refine wpAny_bind (wpAny_specialOf ho.typeIs F.slot_dict_iter.lookup (wpAny_bind (wpAny_pure ?_)))
  have hb : (some (Value.builtin "dict.__iter__") == some (Value.builtin "dict.__iter__")) = true := by rfl
  rw [hb]
  dsimp only
  rw [if_neg (by rw [hoS]; exact Bool.false_ne_true)]
  refine wpAny_bind (wpAny_dictEntries hod hdd ?_)
  have hlen : more.length = eso.size := by rw [← hpo.length]; simp
  rw [if_neg (by
    intro he
    have h0 : esd = #[] := Array.isEmpty_iff.mp he
    have := hpd.length
    rw [h0] at this
    exact hne (List.length_eq_zero_iff.mp (by simpa using this.symm)))]
  refine wpAny_bind (wpAny_dictEntries hoo hdo' ?_)
  refine wpAny_bind (wpAny_dictEpoch hoo hdo' ?_)
  refine wpAny_bind ?_
  rw [List.range_eq_range']
  refine wpAny_forIn_list _
    (fun rest _ s' => ∃ h' i, s' = { s with heap := h' } ∧ rest = List.range' i (eso.size - i) ∧ i ≤ eso.size ∧ h'.DictOf (kI prog w) d (merged kvs (more.take i)) ∧ h'.get? o = some oo ∧ Heap.SameBut d s.heap h')
    _ ?_ ?_ _ _ ⟨s.heap, 0, rfl, by simp, Nat.zero_le _, by simpa [merged] using hd, hoo, Heap.SameBut.refl _ _⟩
  · rintro x rest b s' ⟨h', i, rfl, hr, hi, hd', hoo', hs'⟩
    have hlt : i < eso.size := by
      rcases Nat.lt_or_ge i eso.size with h | h
      · exact h
      · rw [Nat.sub_eq_zero_of_le h] at hr; simp at hr
    obtain ⟨rfl, hrest⟩ : x = i ∧ rest = List.range' (i + 1) (eso.size - (i + 1)) := by
      have e : eso.size - i = (eso.size - (i + 1)) + 1 := by omega
      rw [e, List.range'_succ] at hr
      injection hr with h1 h2
      exact ⟨h1, h2⟩
    refine wpAny_bind (wpAny_dictEntries hoo' hdo' ?_)
    rw [Array.getElem?_eq_getElem hlt]
    obtain ⟨kv, hkv⟩ : ∃ kv, more[x]? = some kv := ⟨more[x]'(by rw [hlen]; exact hlt), List.getElem?_eq_getElem _⟩
    obtain ⟨k, v⟩ := kv
    obtain ⟨hkey, hval⟩ := hpo.get? (e := eso[x]) (by simp [hlt]) hkv
    obtain ⟨k', hkey', hhash⟩ := hko eso[x] (Array.getElem_mem hlt)
    obtain rfl : k' = k := (kI prog w).inj _ _ _ hkey' hkey
    dsimp only
    rw [if_neg Bool.false_ne_true, hhash, hval]
    have hmx : (merged kvs (more.take x)).length ≤ sizeLine := by
      have e1 := merged_length_le kvs (more.take x)
      have e2 : (more.take x).length ≤ more.length := by rw [List.length_take]; omega
      omega
    refine wpAny_bind (wpAny_holding (put_ok hkey hd' (fun h'' hd'' hs'' => ?_) hmx))
    have hoo'' : h''.get? o = some oo := (hs''.2 o (Ne.symm hdo)).trans hoo'
    refine wpAny_bind (wpAny_dictEpoch hoo'' hdo' ?_)
    rw [if_neg (by simp)]
    exact wpAny_pure ⟨h'', x + 1, rfl, hrest, hlt, by rw [merged_take_succ kvs more x (k', v) hkv]; exact hd'', hoo'', hs'.trans hs''⟩
  · rintro b s' ⟨h', i, rfl, hr, hi, hd', hoo', hs'⟩
    have hin : i = eso.size := by
      rcases Nat.lt_or_ge i eso.size with h | h
      · have e : eso.size - i = (eso.size - (i + 1)) + 1 := by omega
        rw [e, List.range'_succ] at hr; exact nomatch hr
      · exact Nat.le_antisymm hi h
    refine wpAny_pure (hQ h' ?_ hs')
    rw [hin, ← hlen, List.take_length] at hd'; exact hd'

noncomputable def flushD (main : Option Addr) (run : List (Sem Value × Sem Value)) : Sem (Option Addr) :=
  if run.isEmpty = true then pure main else match main with
    | none => do
      let d ← subDict run
      pure (some d)
    | some d => do
      let sub ← holding [Value.ref d] (subDict run)
      (holding [Value.ref d, Value.ref sub] (mergeMapping d (Value.ref sub) false)).onRaise fun x => do
        let _ ← holding [Value.ref d, x] (runValue (Code.builtin "proto.let_go" {}))
        pure ()
      pure (some d)

noncomputable def DInv (prog : Program) (w : World) (sz0 : Nat) (h0 : Heap) (done : List Row) (main : Option Addr) (h : Heap) : Prop :=
  (∀ b, b < sz0 → h.get? b = h0.get? b) ∧ h.objs.size = sz0 + (done.length + 16) / 17 ∧
    ((done = [] ∧ main = none) ∨ (done ≠ [] ∧ main = some sz0 ∧ ∃ kvs, RowsAre done kvs ∧ h.DictOf (kI prog w) sz0 kvs))

theorem dictOf_at {h h' : Heap} {a : Addr} {kvs : List (Int × Value)} (hm : h.DictOf (kI prog w) a kvs) (e : h'.get? a = h.get? a) : h'.DictOf (kI prog w) a kvs :=
  let ⟨o, es, ep, ho, r⟩ := hm; ⟨o, es, ep, e.trans ho, r⟩

theorem flush_ok {sz0 : Nat} {h0 : Heap} {done runR : List Row} {main : Option Addr} {s : Shared} {Q : Option Addr → Shared → Prop} (hI : DInv prog w sz0 h0 done main s.heap) (hr : runR ≠ []) (hle : runR.length ≤ 17)
    (hnd : ((done ++ runR).map (·.i)).Nodup) (h17 : done.length % 17 = 0) (hsys : sysModules < sz0) (hsz : (done ++ runR).length ≤ sizeLine)
    (hQ : ∀ main' h', DInv prog w sz0 h0 (done ++ runR) main' h' → Q main' { s with heap := h', toks := s.toks + 3 * runR.length }) :
    wpAny (model prog w) A (flushD main (runR.map (Row.prs env pos))) Q E s := by
  obtain ⟨hk, hs, hc⟩ := hI
  have hlen : runR.length ≠ 0 := fun e => hr (List.length_eq_zero_iff.mp e)
  have hcount : (done.length + 16) / 17 + 1 = ((done ++ runR).length + 16) / 17 := by rw [List.length_append]; omega
  have hne' : done ++ runR ≠ [] := fun e => hr (List.append_eq_nil_iff.mp e).2
  have hnd2 : (runR.map (·.i)).Nodup := by rw [List.map_append, List.nodup_append] at hnd; exact hnd.2.1
  unfold flushD
  rw [if_neg (by
    rw [List.isEmpty_iff]
    exact fun e => hr (List.map_eq_nil_iff.mp e))]
  rcases hc with ⟨rfl, rfl⟩ | ⟨hd0, rfl, kvs, hkv, hD⟩
  · dsimp only
    refine wpAny_bind (sub_ok runR s _ hle fun h' kvs hr' hm hsz' hold => wpAny_pure (hQ _ _ ⟨fun b hb => ?_, ?_, .inr ⟨hne', ?_, kvs, ?_, ?_⟩⟩))
    · exact (hold b (by rw [hs]; exact Nat.lt_add_right _ hb)).trans (hk b hb)
    · rw [hsz', hs, ← hcount]; omega
    · rw [hs]; simp
    · exact hr'
    · rw [merged_nil_of_nodup kvs (by rw [hr'.keys]; exact hnd2)] at hm
      have e : s.heap.objs.size = sz0 := by rw [hs]; simp
      rw [e] at hm; exact hm
  · dsimp only
    have hpos : 0 < (done.length + 16) / 17 := by
      have : done.length ≠ 0 := fun e => hd0 (List.length_eq_zero_iff.mp e)
      omega
    refine wpAny_bind (wpAny_holding (sub_ok runR s _ hle fun h' kvs2 hr' hm hsz' hold => ?_))
    rw [merged_nil_of_nodup kvs2 (by rw [hr'.keys]; exact hnd2)] at hm
    have hD' : h'.DictOf (kI prog w) sz0 kvs := dictOf_at hD (hold sz0 (by rw [hs]; omega))
    have hne : kvs ≠ [] := fun e => hd0 (List.length_eq_zero_iff.mp (by rw [← hkv.length, e]; rfl))
    have hlt : sz0 < s.heap.objs.size := by rw [hs]; omega
    refine wpAny_bind (wpAny_onRaise (wpAny_holding (merge_ok (s := { s with heap := h', toks := s.toks + 3 * runR.length }) (Nat.ne_of_lt hlt) (beq_eq_false_iff_ne.mpr (Nat.ne_of_gt (Nat.lt_trans hsys hlt))) hne hD' hm (fun h'' hM hs'' => ?_) ?_)))
    · refine wpAny_pure (hQ _ _ ⟨fun b hb => ?_, ?_, .inr ⟨hne', rfl, kvs ++ kvs2, hkv.append hr', ?_⟩⟩)
      · exact (hs''.2 b (Nat.ne_of_lt hb)).trans ((hold b (Nat.lt_trans hb hlt)).trans (hk b hb))
      · rw [hs''.1]
        show h'.objs.size = _
        rw [hsz', hs, ← hcount]; omega
      · rw [merged_append_of_fresh kvs kvs2 (by rw [List.map_append, hkv.keys, hr'.keys, ← List.map_append]; exact hnd)] at hM
        exact hM
    · rw [hkv.length, hr'.length, ← List.length_append]; exact hsz

theorem display_ok (rows : List Row) (s : Shared) (Q : Value → Shared → Prop) (hnd : (rows.map (·.i)).Nodup) (hlo : rows ≠ []) (hsz : rows.length ≤ sizeLine) (hsys : sysModules < s.heap.objs.size)
    (hQ : ∀ h' kvs, RowsAre rows kvs → h'.DictOf (kI prog w) s.heap.objs.size kvs → h'.objs.size = s.heap.objs.size + (rows.length + 16) / 17 → (∀ b, b < s.heap.objs.size → h'.get? b = s.heap.get? b) → Q (.ref s.heap.objs.size) { s with heap := h', toks := s.toks + 3 * rows.length }) :
    wpAny (model prog w) A (dictDisplay (rows.map (Row.itm env pos))) Q E s := by
  have fin : ∀ (done : List Row) (main : Option Addr) (h' : Heap), done = rows → DInv prog w s.heap.objs.size s.heap done main h' →
      wpAny (model prog w) A (match main with | some d => pure (Value.ref d) | none => newDict) Q E { s with heap := h', toks := s.toks + 3 * rows.length } := by
    rintro done main h' rfl ⟨hk, hs, hc⟩
    rcases hc with ⟨e, _⟩ | ⟨_, rfl, kvs, hkv, hD⟩
    · exact absurd e hlo
    · exact wpAny_pure (hQ h' kvs hkv hD hs hk)
  unfold dictDisplay
  dsimp only
  refine wpAny_bind ?_
  refine wpAny_forIn_list _
    (fun rest (st : Option Addr × List (Sem Value × Sem Value)) s' => ∃ done runR restR h', rows = done ++ runR ++ restR ∧ rest = restR.map (Row.itm env pos) ∧ st.2 = runR.map (Row.prs env pos) ∧ runR.length < 17 ∧ done.length % 17 = 0 ∧
      DInv prog w s.heap.objs.size s.heap done st.1 h' ∧ s' = { s with heap := h', toks := s.toks + 3 * done.length })
    _ ?_ ?_ _ _ ⟨[], [], rows, s.heap, rfl, rfl, rfl, by simp, rfl, ⟨fun _ _ => rfl, by simp, .inl ⟨rfl, rfl⟩⟩, rfl⟩
  · rintro x rest ⟨main, run⟩ s' ⟨done, runR, restR, h', hrows, hrest, hrun, hlt, h17, hI, rfl⟩
    cases restR with
    | nil => cases hrest
    | cons r restR =>
      rw [List.map_cons] at hrest
      injection hrest with hx hrest
      subst hx hrest
      dsimp only at hrun hI
      subst hrun
      dsimp only
      have e1 : runR.map (Row.prs env pos) ++ [((r.prs env pos).1, (r.prs env pos).2)] = (runR ++ [r]).map (Row.prs env pos) := by rw [List.map_append]; rfl
      by_cases h16 : runR.length + 1 = 17
      · rw [if_pos (by simp [h16])]
        refine wpAny_bind ?_
        rw [e1]
        have hsub : ((done ++ (runR ++ [r])).map (·.i)).Nodup := by
          have : rows = (done ++ (runR ++ [r])) ++ restR := by rw [hrows]; simp
          rw [this, List.map_append, List.nodup_append] at hnd
          exact hnd.1
        refine flush_ok (s := { s with heap := h', toks := s.toks + 3 * done.length }) hI (by simp) (by rw [List.length_append]; simp; omega) hsub h17 hsys ?_ fun main' h'' hI' => wpAny_pure ?_
        · have : rows.length = (done ++ (runR ++ [r])).length + restR.length := by rw [hrows]; simp; omega
          omega
        · refine ⟨done ++ (runR ++ [r]), [], restR, h'', by rw [hrows]; simp, rfl, rfl, by simp, ?_, hI', ?_⟩
          · rw [List.length_append, List.length_append]; simp; omega
          · show Shared.mk _ _ _ _ _ = Shared.mk _ _ _ _ _
            have e : s.toks + 3 * done.length + 3 * (runR ++ [r]).length = s.toks + 3 * (done ++ (runR ++ [r])).length := by rw [List.length_append (as := done)]; omega
            exact congrArg (fun k => Shared.mk h'' s.gens s.drawn k s.os) e
      · rw [if_neg (by simp; omega)]
        refine wpAny_pure ⟨done, runR ++ [r], restR, h', by rw [hrows]; simp, rfl, e1, ?_, h17, hI, rfl⟩
        rw [List.length_append]; simp; omega
  · rintro ⟨main, run⟩ s' ⟨done, runR, restR, h', hrows, hrest, hrun, hlt, h17, hI, rfl⟩
    have hr0 : restR = [] := List.map_eq_nil_iff.mp hrest.symm
    subst hr0
    dsimp only at hrun hI
    subst hrun
    rw [List.append_nil] at hrows
    dsimp only
    refine wpAny_bind ?_
    show wpAny _ _ (flushD main (runR.map (Row.prs env pos))) _ _ _
    by_cases hr : runR = []
    · subst hr
      unfold flushD
      rw [if_pos (by rfl)]
      refine wpAny_pure ?_
      rw [List.append_nil] at hrows
      have := fin done main h' hrows.symm hI
      rw [hrows] at this
      exact this
    · refine flush_ok (s := { s with heap := h', toks := s.toks + 3 * done.length }) hI hr (Nat.le_of_lt hlt) (hrows ▸ hnd) h17 hsys (hrows ▸ hsz) fun main' h'' hI' => ?_
      have := fin _ main' h'' hrows.symm hI'
      have e : s.toks + 3 * rows.length = s.toks + 3 * done.length + 3 * runR.length := by rw [hrows, List.length_append]; omega
      rw [e] at this
      exact this
end
end Mine
end
theorem Mine.rs3 : True := by k_with_none; w_top off; trivial
section
open PySem PySem.W PyProof.Rows
set_option maxRecDepth 100000
set_option maxHeartbeats 0
namespace Mine
noncomputable section
abbrev dn : Code → Sem PySem.Fin := PySem.W.Fast.tw11892475500146522536 PySem.W.Fast.tw14364793385576792824
theorem dn_eq : denote table = dn := by
  rw [table_eq_tree, PySem.W.Fast.te11892475500146522536, PySem.W.Fast.te14364793385576792824]
@[irreducible] noncomputable def stmts : List Stmt := behindTheImports P
@[irreducible] noncomputable def env : Env := { scope := P.main.scope, locals := mainNs, globals := mainNs, cells := [], code := .ref 13, frame := some 14 }
noncomputable def pos0 : Pos := ⟨0, 0, 0, 0⟩
noncomputable def Γ0 : Ctx := ⟨.builtin "claim.caller" {}, none, none, [], none⟩
@[irreducible] noncomputable def Γb : Ctx := Γ0.enter (.body stmts env) none pos0
@[irreducible] noncomputable def bootL (Q : Params) : List Obj := [boot_o_0 Q, boot_o_1 Q, boot_o_2 Q, boot_o_3 Q, boot_o_4 Q, boot_o_5 Q, boot_o_6 Q, boot_o_7 Q, boot_o_8 Q, boot_o_9 Q, boot_o_10 Q]
@[irreducible] noncomputable def treeOf (l : List Obj) : BT := (l.foldl (fun (x : BT × Nat) o => (x.1.ins x.2 o, x.2 + 1)) (.nil, 0)).1
@[irreducible] noncomputable def x0 (Q : Params) : St := ⟨treeOf (bootL Q), 11, boot_toks⟩
@[irreducible] noncomputable def obF (P : Params) (m3 m12 : Obj) (f : Nat → Obj) : List Obj := 
    boot_o_0 P ::
    boot_o_1 P ::
    boot_o_2 P ::
    m3 ::
    boot_o_4 P ::
    boot_o_5 P ::
    boot_o_6 P ::
    boot_o_7 P ::
    boot_o_8 P ::
    boot_o_9 P ::
    boot_o_10 P ::
    ⟨.type "tuple", none, (.seq #[] 0), #[]⟩ ::
    m12 ::
    ⟨.type "code", none, (.fields #[.str (.ofString "<module>") 182, .str (.ofString "<module>") 183, .str (.ofString "/claim/cut.py") 184, .int 1 0, .int 0 0, .int 0 0, .int 0 0, .int 0 0, .ref 11, .bool false, .int 181 0, .ref 12, .none, .none, .none, .none, .int 185 0, .int 1 0, .str (.ofString "/claim/cut.py") 186]), #[]⟩ ::
    ⟨.type "frame", none, .plain, #[some (.ref 13), some (.ref 3), some (.ref 3), none, some (.str (.ofString "__main__") 164), none, some (.ref 0)]⟩ ::
    ⟨.type "tuple", none, (.seq #[] 0), #[]⟩ ::
    ⟨.none, none, (.fields #[]), #[]⟩ ::
    ⟨.type "tuple", none, (.seq #[.str (.ofString "want") 194, .str (.ofString "got") 195, .str (.ofString "ws") 196, .str (.ofString "startpos") 197, .str (.ofString "endpos") 198, .str (.ofString "w") 199] 0), #[]⟩ ::
    ⟨.type "tuple", none, (.seq #[] 0), #[]⟩ ::
    ⟨.none, none, (.func ⟨(.ofString "_ellipsis_match"), (.ofString "_ellipsis_match"), (partsOf 2).1, .stmts (partsOf 2).2.1, (partsOf 2).2.2, 0, [], .none, .none, .none, .none, none, .none, .none, 0⟩), #[]⟩ ::
    ⟨.type "code", none, (.fields #[.str (.ofString "_ellipsis_match") 191, .str (.ofString "_ellipsis_match") 192, .str (.ofString "/claim/cut.py") 193, .int 3 0, .int 2 0, .int 0 0, .int 0 0, .int 3 0, .ref 15, .bool true, .int 181 0, .ref 16, .none, .ref 17, .ref 18, .ref 19, .int 200 0, .int 3 0, .str (.ofString "/claim/cut.py") 201]), #[]⟩ ::
    ⟨.type "function", none, (.func ⟨(.ofString "_ellipsis_match"), (.ofString "_ellipsis_match"), (partsOf 2).1, .stmts (partsOf 2).2.1, (partsOf 2).2.2, 3, [], .none, .none, .none, .str (.ofString "cpy313.doctest") 187, none, .ref 20, .none, 0⟩), #[]⟩ ::
    ⟨.type "tuple", none, (.seq #[] 0), #[]⟩ ::
    ⟨.none, none, (.fields #[]), #[]⟩ ::
    ⟨.type "tuple", none, (.seq #[.str (.ofString "a") 208, .str (.ofString "b") 209] 0), #[]⟩ ::
    ⟨.type "tuple", none, (.seq #[] 0), #[]⟩ ::
    ⟨.none, none, (.func ⟨(.ofString "_strcoll"), (.ofString "_strcoll"), (partsOf 4).1, .stmts (partsOf 4).2.1, (partsOf 4).2.2, 0, [], .none, .none, .none, .none, none, .none, .none, 0⟩), #[]⟩ ::
    ⟨.type "code", none, (.fields #[.str (.ofString "_strcoll") 205, .str (.ofString "_strcoll") 206, .str (.ofString "/claim/cut.py") 207, .int 32 0, .int 2 0, .int 0 0, .int 0 0, .int 3 0, .ref 22, .bool true, .int 181 0, .ref 23, .none, .ref 24, .ref 25, .ref 26, .int 210 0, .int 32 0, .str (.ofString "/claim/cut.py") 211]), #[]⟩ ::
    ⟨.type "function", none, (.func ⟨(.ofString "_strcoll"), (.ofString "_strcoll"), (partsOf 4).1, .stmts (partsOf 4).2.1, (partsOf 4).2.2, 3, [], .none, .none, .none, .str (.ofString "cpy313.locale") 203, none, .ref 27, .none, 0⟩), #[]⟩ ::
    ⟨.type "tuple", none, (.seq #[] 0), #[]⟩ ::
    ⟨.none, none, (.fields #[]), #[]⟩ ::
    ⟨.type "tuple", none, (.seq #[.str (.ofString "grouping") 218, .str (.ofString "last_interval") 219, .str (.ofString "interval") 220] 0), #[]⟩ ::
    ⟨.type "tuple", none, (.seq #[] 0), #[]⟩ ::
    ⟨.none, none, (.func ⟨(.ofString "_grouping_intervals"), (.ofString "_grouping_intervals"), (partsOf 6).1, .stmts (partsOf 6).2.1, (partsOf 6).2.2, 0, [], .none, .none, .none, .none, none, .none, .none, 0⟩), #[]⟩ ::
    ⟨.type "code", none, (.fields #[.str (.ofString "_grouping_intervals") 215, .str (.ofString "_grouping_intervals") 216, .str (.ofString "/claim/cut.py") 217, .int 35 0, .int 1 0, .int 0 0, .int 0 0, .int 35 0, .ref 29, .bool true, .int 181 0, .ref 30, .none, .ref 31, .ref 32, .ref 33, .int 221 0, .int 35 0, .str (.ofString "/claim/cut.py") 222]), #[]⟩ ::
    ⟨.type "function", none, (.func ⟨(.ofString "_grouping_intervals"), (.ofString "_grouping_intervals"), (partsOf 6).1, .stmts (partsOf 6).2.1, (partsOf 6).2.2, 3, [], .none, .none, .none, .str (.ofString "cpy313.locale") 203, none, .ref 34, .none, 0⟩), #[]⟩ ::
    ⟨.type "tuple", none, (.seq #[] 0), #[]⟩ ::
    ⟨.none, none, (.fields #[]), #[]⟩ ::
    ⟨.type "tuple", none, (.seq #[.str (.ofString "a") 229, .str (.ofString "b") 230, .str (.ofString "msg") 231] 0), #[]⟩ ::
    ⟨.type "tuple", none, (.seq #[] 0), #[]⟩ ::
    ⟨.none, none, (.func ⟨(.ofString "concat"), (.ofString "concat"), (partsOf 8).1, .stmts (partsOf 8).2.1, (partsOf 8).2.2, 0, [], .none, .none, .none, .none, none, .none, .none, 0⟩), #[]⟩ ::
    ⟨.type "code", none, (.fields #[.str (.ofString "concat") 226, .str (.ofString "concat") 227, .str (.ofString "/claim/cut.py") 228, .int 48 0, .int 2 0, .int 0 0, .int 0 0, .int 3 0, .ref 36, .bool true, .int 181 0, .ref 37, .none, .ref 38, .ref 39, .ref 40, .int 232 0, .int 48 0, .str (.ofString "/claim/cut.py") 233]), #[]⟩ ::
    ⟨.type "function", none, (.func ⟨(.ofString "concat"), (.ofString "concat"), (partsOf 8).1, .stmts (partsOf 8).2.1, (partsOf 8).2.2, 3, [], .none, .none, .none, .str (.ofString "cpy313.operator") 224, none, .ref 41, .none, 0⟩), #[]⟩ ::
    ⟨.type "tuple", none, (.seq #[] 0), #[]⟩ ::
    ⟨.none, none, (.fields #[]), #[]⟩ ::
    ⟨.type "tuple", none, (.seq #[.str (.ofString "a") 238, .str (.ofString "b") 239, .str (.ofString "count") 240, .str (.ofString "i") 241] 0), #[]⟩ ::
    ⟨.type "tuple", none, (.seq #[] 0), #[]⟩ ::
    ⟨.none, none, (.func ⟨(.ofString "countOf"), (.ofString "countOf"), (partsOf 9).1, .stmts (partsOf 9).2.1, (partsOf 9).2.2, 0, [], .none, .none, .none, .none, none, .none, .none, 0⟩), #[]⟩ ::
    ⟨.type "code", none, (.fields #[.str (.ofString "countOf") 235, .str (.ofString "countOf") 236, .str (.ofString "/claim/cut.py") 237, .int 53 0, .int 2 0, .int 0 0, .int 0 0, .int 3 0, .ref 43, .bool true, .int 181 0, .ref 44, .none, .ref 45, .ref 46, .ref 47, .int 242 0, .int 53 0, .str (.ofString "/claim/cut.py") 243]), #[]⟩ ::
    ⟨.type "function", none, (.func ⟨(.ofString "countOf"), (.ofString "countOf"), (partsOf 9).1, .stmts (partsOf 9).2.1, (partsOf 9).2.2, 3, [], .none, .none, .none, .str (.ofString "cpy313.operator") 224, none, .ref 48, .none, 0⟩), #[]⟩ ::
    ⟨.type "tuple", none, (.seq #[] 0), #[]⟩ ::
    ⟨.none, none, (.fields #[]), #[]⟩ ::
    ⟨.type "tuple", none, (.seq #[.str (.ofString "a") 248, .str (.ofString "b") 249, .str (.ofString "i") 250, .str (.ofString "j") 251] 0), #[]⟩ ::
    ⟨.type "tuple", none, (.seq #[] 0), #[]⟩ ::
    ⟨.none, none, (.func ⟨(.ofString "indexOf"), (.ofString "indexOf"), (partsOf 10).1, .stmts (partsOf 10).2.1, (partsOf 10).2.2, 0, [], .none, .none, .none, .none, none, .none, .none, 0⟩), #[]⟩ ::
    ⟨.type "code", none, (.fields #[.str (.ofString "indexOf") 245, .str (.ofString "indexOf") 246, .str (.ofString "/claim/cut.py") 247, .int 59 0, .int 2 0, .int 0 0, .int 0 0, .int 3 0, .ref 50, .bool true, .int 181 0, .ref 51, .none, .ref 52, .ref 53, .ref 54, .int 252 0, .int 59 0, .str (.ofString "/claim/cut.py") 253]), #[]⟩ ::
    ⟨.type "function", none, (.func ⟨(.ofString "indexOf"), (.ofString "indexOf"), (partsOf 10).1, .stmts (partsOf 10).2.1, (partsOf 10).2.2, 3, [], .none, .none, .none, .str (.ofString "cpy313.operator") 224, none, .ref 55, .none, 0⟩), #[]⟩ ::
    ⟨.type "list", none, (.seq #[.int 173 257, .int 847 258, .int 6150 259, .int 6155 260, .int 6156 261, .int 6157 262, .int 8203 263, .int 8204 264, .int 8205 265, .int 8288 266, .int 65279 267] 0), #[]⟩ ::
    ⟨.type "range", none, (.fields #[.int 65024 268, .int 65040 269, .int 1 270]), #[]⟩ ::
    ⟨.type "list", none, (.seq #[.int 65024 273, .int 65025 274, .int 65026 275, .int 65027 276, .int 65028 277, .int 65029 278, .int 65030 279, .int 65031 280, .int 65032 281, .int 65033 282, .int 65034 283, .int 65035 284, .int 65036 285, .int 65037 286, .int 65038 287, .int 65039 288] 18), #[]⟩ ::
    ⟨.type "range_iterator", none, (.fields #[.int 65040 0, .int 0 0, .int 1 0]), #[]⟩ ::
    ⟨.type "tuple", none, (.seq #[] 0), #[]⟩ ::
    ⟨.type "StopIteration", none, (.fields #[.ref 61, .none, .none, .none, .bool false, .none]), #[]⟩ ::
    ⟨.type "list", none, (.seq #[.int 173 257, .int 847 258, .int 6150 259, .int 6155 260, .int 6156 261, .int 6157 262, .int 8203 263, .int 8204 264, .int 8205 265, .int 8288 266, .int 65279 267, .int 65024 273, .int 65025 274, .int 65026 275, .int 65027 276, .int 65028 277, .int 65029 278, .int 65030 279, .int 65031 280, .int 65032 281, .int 65033 282, .int 65034 283, .int 65035 284, .int 65036 285, .int 65037 286, .int 65038 287, .int 65039 288] 0), #[]⟩ ::
    ⟨.type "set", none, (.set #[(65024, .int 65024 273), (65025, .int 65025 274), (65026, .int 65026 275), (65027, .int 65027 276), (65028, .int 65028 277), (65029, .int 65029 278), (6150, .int 6150 259), (65030, .int 65030 279), (65031, .int 65031 280), (65032, .int 65032 281), (65033, .int 65033 282), (6155, .int 6155 260), (6156, .int 6156 261), (6157, .int 6157 262), (8203, .int 8203 263), (8204, .int 8204 264), (8205, .int 8205 265), (65034, .int 65034 283), (65035, .int 65035 284), (65036, .int 65036 285), (65037, .int 65037 286), (65038, .int 65038 287), (65039, .int 65039 288), (173, .int 173 257), (847, .int 847 258), (8288, .int 8288 266), (65279, .int 65279 267)] 29 ⟨127, #[0, 1, 2, 3, 4, 5, 6, 7, 8, 9, 10, 11, 12, 13, 14, 15, 16, 17, 18, 19, 20, 21, 22, 45, 79, 96, 127], #[], 0, !P.followText "set-order", 2, true⟩), #[]⟩ ::
    ⟨.type "list_iterator", none, (.fields #[.none, .int 27 0]), #[]⟩ ::
    ⟨.type "tuple", none, (.seq #[] 0), #[]⟩ ::
    ⟨.type "StopIteration", none, (.fields #[.ref 66, .none, .none, .none, .bool false, .none]), #[]⟩ ::
    ⟨.type "tuple", none, (.seq #[] 0), #[]⟩ ::
    ⟨.none, none, (.fields #[]), #[]⟩ ::
    ⟨.type "tuple", none, (.seq #[.str (.ofString "code") 320] 0), #[]⟩ ::
    ⟨.type "tuple", none, (.seq #[] 0), #[]⟩ ::
    ⟨.none, none, (.func ⟨(.ofString "in_table_b1"), (.ofString "in_table_b1"), (partsOf 13).1, .stmts (partsOf 13).2.1, (partsOf 13).2.2, 0, [], .none, .none, .none, .none, none, .none, .none, 0⟩), #[]⟩ ::
    ⟨.type "code", none, (.fields #[.str (.ofString "in_table_b1") 317, .str (.ofString "in_table_b1") 318, .str (.ofString "/claim/cut.py") 319, .int 67 0, .int 1 0, .int 0 0, .int 0 0, .int 3 0, .ref 68, .bool true, .int 181 0, .ref 69, .none, .ref 70, .ref 71, .ref 72, .int 321 0, .int 67 0, .str (.ofString "/claim/cut.py") 322]), #[]⟩ ::
    ⟨.type "function", none, (.func ⟨(.ofString "in_table_b1"), (.ofString "in_table_b1"), (partsOf 13).1, .stmts (partsOf 13).2.1, (partsOf 13).2.2, 3, [], .none, .none, .none, .str (.ofString "cpy313.stringprep") 255, none, .ref 73, .none, 0⟩), #[]⟩ ::
    f 75 ::
    f 76 ::
    f 77 ::
    f 78 ::
    f 79 ::
    f 80 ::
    f 81 ::
    f 82 ::
    f 83 ::
    f 84 ::
    f 85 ::
    f 86 ::
    f 87 ::
    f 88 ::
    f 89 ::
    f 90 ::
    f 91 ::
    f 92 ::
    f 93 ::
    f 94 ::
    f 95 ::
    f 96 ::
    f 97 ::
    f 98 ::
    f 99 ::
    f 100 ::
    f 101 ::
    f 102 ::
    f 103 ::
    f 104 ::
    f 105 ::
    f 106 ::
    f 107 ::
    f 108 ::
    f 109 ::
    f 110 ::
    f 111 ::
    f 112 ::
    f 113 ::
    ⟨.type "tuple", none, (.seq #[] 0), #[]⟩ ::
    ⟨.none, none, (.fields #[]), #[]⟩ ::
    ⟨.type "tuple", none, (.seq #[.str (.ofString "code") 2278, .str (.ofString "r") 2279] 0), #[]⟩ ::
    ⟨.type "tuple", none, (.seq #[] 0), #[]⟩ ::
    ⟨.none, none, (.func ⟨(.ofString "map_table_b3"), (.ofString "map_table_b3"), (partsOf 15).1, .stmts (partsOf 15).2.1, (partsOf 15).2.2, 0, [], .none, .none, .none, .none, none, .none, .none, 0⟩), #[]⟩ ::
    ⟨.type "code", none, (.fields #[.str (.ofString "map_table_b3") 2275, .str (.ofString "map_table_b3") 2276, .str (.ofString "/claim/cut.py") 2277, .int 70 0, .int 1 0, .int 0 0, .int 0 0, .int 3 0, .ref 114, .bool true, .int 181 0, .ref 115, .none, .ref 116, .ref 117, .ref 118, .int 2280 0, .int 70 0, .str (.ofString "/claim/cut.py") 2281]), #[]⟩ ::
    ⟨.type "function", none, (.func ⟨(.ofString "map_table_b3"), (.ofString "map_table_b3"), (partsOf 15).1, .stmts (partsOf 15).2.1, (partsOf 15).2.2, 3, [], .none, .none, .none, .str (.ofString "cpy313.stringprep") 255, none, .ref 119, .none, 0⟩), #[]⟩ ::
    ⟨.type "tuple", none, (.seq #[] 0), #[]⟩ ::
    ⟨.none, none, (.fields #[]), #[]⟩ ::
    ⟨.none, none, (.func ⟨(.ofString "_law_drawn"), (.ofString "_law_drawn"), (partsOf 17).1, .stmts (partsOf 17).2.1, (partsOf 17).2.2, 0, [], .none, .none, .none, .none, none, .none, .none, 0⟩), #[]⟩ ::
    ⟨.type "code", none, (.fields #[.str (.ofString "_law_drawn") 2285, .str (.ofString "_law_drawn") 2286, .str (.ofString "/claim/cut.py") 2287, .int 76 0, .int 1 0, .int 0 0, .int 0 0, .int 3 0, .ref 121, .bool true, .int 181 0, .ref 122, .none, .none, .none, .ref 123, .int 2288 0, .int 76 0, .str (.ofString "/claim/cut.py") 2289]), #[]⟩ ::
    ⟨.type "function", none, (.func ⟨(.ofString "_law_drawn"), (.ofString "_law_drawn"), (partsOf 17).1, .stmts (partsOf 17).2.1, (partsOf 17).2.2, 3, [], .none, .none, .none, .str (.ofString "law_wo0061_01") 2283, none, .ref 124, .none, 0⟩), #[]⟩ ::
    ⟨.type "tuple", none, (.seq #[] 0), #[]⟩ ::
    ⟨.none, none, (.fields #[]), #[]⟩ ::
    ⟨.type "tuple", none, (.seq #[.str (.ofString "drawn") 2294, .str (.ofString "pool") 2295, .str (.ofString "order") 2296, .str (.ofString "k") 2297] 0), #[]⟩ ::
    ⟨.type "tuple", none, (.seq #[] 0), #[]⟩ ::
    ⟨.none, none, (.func ⟨(.ofString "_law_order"), (.ofString "_law_order"), (partsOf 18).1, .stmts (partsOf 18).2.1, (partsOf 18).2.2, 0, [], .none, .none, .none, .none, none, .none, .none, 0⟩), #[]⟩ ::
    ⟨.type "code", none, (.fields #[.str (.ofString "_law_order") 2291, .str (.ofString "_law_order") 2292, .str (.ofString "/claim/cut.py") 2293, .int 80 0, .int 1 0, .int 0 0, .int 0 0, .int 3 0, .ref 126, .bool true, .int 181 0, .ref 127, .none, .ref 128, .ref 129, .ref 130, .int 2298 0, .int 80 0, .str (.ofString "/claim/cut.py") 2299]), #[]⟩ ::
    ⟨.type "function", none, (.func ⟨(.ofString "_law_order"), (.ofString "_law_order"), (partsOf 18).1, .stmts (partsOf 18).2.1, (partsOf 18).2.2, 3, [], .none, .none, .none, .str (.ofString "law_wo0061_01") 2283, none, .ref 131, .none, 0⟩), #[]⟩ ::
    ⟨.type "tuple", none, (.seq #[] 0), #[]⟩ ::
    ⟨.none, none, (.fields #[]), #[]⟩ ::
    ⟨.type "tuple", none, (.seq #[.str (.ofString "letter") 2304, .str (.ofString "way") 2305] 0), #[]⟩ ::
    ⟨.type "tuple", none, (.seq #[] 0), #[]⟩ ::
    ⟨.none, none, (.func ⟨(.ofString "_law_letter"), (.ofString "_law_letter"), (partsOf 19).1, .stmts (partsOf 19).2.1, (partsOf 19).2.2, 0, [], .none, .none, .none, .none, none, .none, .none, 0⟩), #[]⟩ ::
    ⟨.type "code", none, (.fields #[.str (.ofString "_law_letter") 2301, .str (.ofString "_law_letter") 2302, .str (.ofString "/claim/cut.py") 2303, .int 86 0, .int 2 0, .int 0 0, .int 0 0, .int 3 0, .ref 133, .bool true, .int 181 0, .ref 134, .none, .ref 135, .ref 136, .ref 137, .int 2306 0, .int 86 0, .str (.ofString "/claim/cut.py") 2307]), #[]⟩ ::
    ⟨.type "function", none, (.func ⟨(.ofString "_law_letter"), (.ofString "_law_letter"), (partsOf 19).1, .stmts (partsOf 19).2.1, (partsOf 19).2.2, 3, [], .none, .none, .none, .str (.ofString "law_wo0061_01") 2283, none, .ref 138, .none, 0⟩), #[]⟩ ::
    ⟨.type "tuple", none, (.seq #[] 0), #[]⟩ ::
    ⟨.none, none, (.fields #[]), #[]⟩ ::
    ⟨.type "tuple", none, (.seq #[.str (.ofString "figure") 2312] 0), #[]⟩ ::
    ⟨.type "tuple", none, (.seq #[] 0), #[]⟩ ::
    ⟨.none, none, (.func ⟨(.ofString "_law_unseen"), (.ofString "_law_unseen"), (partsOf 20).1, .stmts (partsOf 20).2.1, (partsOf 20).2.2, 0, [], .none, .none, .none, .none, none, .none, .none, 0⟩), #[]⟩ ::
    ⟨.type "code", none, (.fields #[.str (.ofString "_law_unseen") 2309, .str (.ofString "_law_unseen") 2310, .str (.ofString "/claim/cut.py") 2311, .int 92 0, .int 1 0, .int 0 0, .int 0 0, .int 3 0, .ref 140, .bool true, .int 181 0, .ref 141, .none, .ref 142, .ref 143, .ref 144, .int 2313 0, .int 92 0, .str (.ofString "/claim/cut.py") 2314]), #[]⟩ ::
    ⟨.type "function", none, (.func ⟨(.ofString "_law_unseen"), (.ofString "_law_unseen"), (partsOf 20).1, .stmts (partsOf 20).2.1, (partsOf 20).2.2, 3, [], .none, .none, .none, .str (.ofString "law_wo0061_01") 2283, none, .ref 145, .none, 0⟩), #[]⟩ ::
    ⟨.type "tuple", none, (.seq #[] 0), #[]⟩ ::
    ⟨.none, none, (.fields #[]), #[]⟩ ::
    ⟨.type "tuple", none, (.seq #[.str (.ofString "plain") 2319, .str (.ofString "drawn") 2320, .str (.ofString "joined") 2321, .str (.ofString "text") 2322, .str (.ofString "place") 2323, .str (.ofString "way") 2324, .str (.ofString "part") 2325, .str (.ofString "size") 2326] 0), #[]⟩ ::
    ⟨.type "tuple", none, (.seq #[] 0), #[]⟩ ::
    ⟨.none, none, (.func ⟨(.ofString "_law_typed"), (.ofString "_law_typed"), (partsOf 21).1, .stmts (partsOf 21).2.1, (partsOf 21).2.2, 0, [], .none, .none, .none, .none, none, .none, .none, 0⟩), #[]⟩ ::
    ⟨.type "code", none, (.fields #[.str (.ofString "_law_typed") 2316, .str (.ofString "_law_typed") 2317, .str (.ofString "/claim/cut.py") 2318, .int 98 0, .int 2 0, .int 0 0, .int 0 0, .int 3 0, .ref 147, .bool true, .int 181 0, .ref 148, .none, .ref 149, .ref 150, .ref 151, .int 2327 0, .int 98 0, .str (.ofString "/claim/cut.py") 2328]), #[]⟩ ::
    ⟨.type "function", none, (.func ⟨(.ofString "_law_typed"), (.ofString "_law_typed"), (partsOf 21).1, .stmts (partsOf 21).2.1, (partsOf 21).2.2, 3, [], .none, .none, .none, .str (.ofString "law_wo0061_01") 2283, none, .ref 152, .none, 0⟩), #[]⟩ ::
    ⟨.type "tuple", none, (.seq #[] 0), #[]⟩ ::
    ⟨.none, none, (.fields #[]), #[]⟩ ::
    ⟨.type "tuple", none, (.seq #[.str (.ofString "text") 2333, .str (.ofString "word") 2334, .str (.ofString "sign") 2335] 0), #[]⟩ ::
    ⟨.type "tuple", none, (.seq #[] 0), #[]⟩ ::
    ⟨.none, none, (.func ⟨(.ofString "_law_read"), (.ofString "_law_read"), (partsOf 22).1, .stmts (partsOf 22).2.1, (partsOf 22).2.2, 0, [], .none, .none, .none, .none, none, .none, .none, 0⟩), #[]⟩ ::
    ⟨.type "code", none, (.fields #[.str (.ofString "_law_read") 2330, .str (.ofString "_law_read") 2331, .str (.ofString "/claim/cut.py") 2332, .int 116 0, .int 1 0, .int 0 0, .int 0 0, .int 3 0, .ref 154, .bool true, .int 181 0, .ref 155, .none, .ref 156, .ref 157, .ref 158, .int 2336 0, .int 116 0, .str (.ofString "/claim/cut.py") 2337]), #[]⟩ ::
    ⟨.type "function", none, (.func ⟨(.ofString "_law_read"), (.ofString "_law_read"), (partsOf 22).1, .stmts (partsOf 22).2.1, (partsOf 22).2.2, 3, [], .none, .none, .none, .str (.ofString "law_wo0061_01") 2283, none, .ref 159, .none, 0⟩), #[]⟩ ::
    ⟨.type "tuple", none, (.seq #[] 0), #[]⟩ ::
    ⟨.none, none, (.fields #[]), #[]⟩ ::
    ⟨.none, none, (.func ⟨(.ofString "_law_weave"), (.ofString "_law_weave"), (partsOf 23).1, .stmts (partsOf 23).2.1, (partsOf 23).2.2, 0, [], .none, .none, .none, .none, none, .none, .none, 0⟩), #[]⟩ ::
    ⟨.type "code", none, (.fields #[.str (.ofString "_law_weave") 2339, .str (.ofString "_law_weave") 2340, .str (.ofString "/claim/cut.py") 2341, .int 122 0, .int 2 0, .int 0 0, .int 0 0, .int 3 0, .ref 161, .bool true, .int 181 0, .ref 162, .none, .none, .none, .ref 163, .int 2342 0, .int 122 0, .str (.ofString "/claim/cut.py") 2343]), #[]⟩ ::
    ⟨.type "function", none, (.func ⟨(.ofString "_law_weave"), (.ofString "_law_weave"), (partsOf 23).1, .stmts (partsOf 23).2.1, (partsOf 23).2.2, 3, [], .none, .none, .none, .str (.ofString "law_wo0061_01") 2283, none, .ref 164, .none, 0⟩), #[]⟩ ::
    ⟨.type "tuple", none, (.seq #[] 0), #[]⟩ ::
    ⟨.none, none, (.fields #[]), #[]⟩ ::
    ⟨.none, none, (.func ⟨(.ofString "_law_unweave"), (.ofString "_law_unweave"), (partsOf 24).1, .stmts (partsOf 24).2.1, (partsOf 24).2.2, 0, [], .none, .none, .none, .none, none, .none, .none, 0⟩), #[]⟩ ::
    ⟨.type "code", none, (.fields #[.str (.ofString "_law_unweave") 2345, .str (.ofString "_law_unweave") 2346, .str (.ofString "/claim/cut.py") 2347, .int 137 0, .int 1 0, .int 0 0, .int 0 0, .int 3 0, .ref 166, .bool true, .int 181 0, .ref 167, .none, .none, .none, .ref 168, .int 2348 0, .int 137 0, .str (.ofString "/claim/cut.py") 2349]), #[]⟩ ::
    ⟨.type "function", none, (.func ⟨(.ofString "_law_unweave"), (.ofString "_law_unweave"), (partsOf 24).1, .stmts (partsOf 24).2.1, (partsOf 24).2.2, 3, [], .none, .none, .none, .str (.ofString "law_wo0061_01") 2283, none, .ref 169, .none, 0⟩), #[]⟩ ::
    ⟨.type "tuple", none, (.seq #[] 0), #[]⟩ ::
    ⟨.none, none, (.fields #[]), #[]⟩ ::
    ⟨.none, none, (.func ⟨(.ofString "law"), (.ofString "law"), (partsOf 25).1, .stmts (partsOf 25).2.1, (partsOf 25).2.2, 0, [], .none, .none, .none, .none, none, .none, .none, 0⟩), #[]⟩ ::
    ⟨.type "code", none, (.fields #[.str (.ofString "law") 2351, .str (.ofString "law") 2352, .str (.ofString "/claim/cut.py") 2353, .int 153 0, .int 1 0, .int 0 0, .int 0 0, .int 3 0, .ref 171, .bool true, .int 181 0, .ref 172, .none, .none, .none, .ref 173, .int 2354 0, .int 153 0, .str (.ofString "/claim/cut.py") 2355]), #[]⟩ ::
    ⟨.type "function", none, (.func ⟨(.ofString "law"), (.ofString "law"), (partsOf 25).1, .stmts (partsOf 25).2.1, (partsOf 25).2.2, 3, [], .none, .none, .none, .str (.ofString "law_wo0061_01") 2283, none, .ref 174, .none, 0⟩), #[]⟩ :: []
@[irreducible] noncomputable def m3a (P : Params) : Obj := ⟨.type "dict", none, (.dict (List.toArray [⟨PyData.keyHash P (.ofString "__name__"), .str (.ofString "__name__") 165, .str (.ofString "cpy313.stringprep") 255⟩, ⟨PyData.keyHash P (.ofString "__doc__"), .str (.ofString "__doc__") 166, .none⟩, ⟨PyData.keyHash P (.ofString "__package__"), .str (.ofString "__package__") 167, .none⟩, ⟨PyData.keyHash P (.ofString "__loader__"), .str (.ofString "__loader__") 168, .builtin "__main__.__loader__#opaque"⟩, ⟨PyData.keyHash P (.ofString "__spec__"), .str (.ofString "__spec__") 169, .none⟩, ⟨PyData.keyHash P (.ofString "__annotations__"), .str (.ofString "__annotations__") 170, .ref 6⟩, ⟨PyData.keyHash P (.ofString "__builtins__"), .str (.ofString "__builtins__") 171, .ref 4⟩, ⟨PyData.keyHash P (.ofString "__file__"), .str (.ofString "__file__") 173, .str (.ofString "/claim/cut.py") 172⟩, ⟨PyData.keyHash P (.ofString "__cached__"), .str (.ofString "__cached__") 174, .none⟩, ⟨PyData.keyHash P (.ofString "ELLIPSIS_MARKER"), .str (.ofString "ELLIPSIS_MARKER") 190, .str (.ofString "...") 189⟩, ⟨PyData.keyHash P (.ofString "_ellipsis_match"), .str (.ofString "_ellipsis_match") 202, .ref 21⟩, ⟨PyData.keyHash P (.ofString "_strcoll"), .str (.ofString "_strcoll") 212, .ref 28⟩, ⟨PyData.keyHash P (.ofString "CHAR_MAX"), .str (.ofString "CHAR_MAX") 214, .int 127 213⟩, ⟨PyData.keyHash P (.ofString "_grouping_intervals"), .str (.ofString "_grouping_intervals") 223, .ref 35⟩, ⟨PyData.keyHash P (.ofString "concat"), .str (.ofString "concat") 234, .ref 42⟩, ⟨PyData.keyHash P (.ofString "countOf"), .str (.ofString "countOf") 244, .ref 49⟩, ⟨PyData.keyHash P (.ofString "indexOf"), .str (.ofString "indexOf") 254, .ref 56⟩, ⟨PyData.keyHash P (.ofString "b1_set"), .str (.ofString "b1_set") 316, .ref 64⟩, ⟨PyData.keyHash P (.ofString "in_table_b1"), .str (.ofString "in_table_b1") 323, .ref 74⟩]) 19), #[]⟩
@[irreducible] noncomputable def m12a : Obj := ⟨.none, none, (.fields #[.int 3 0, .int 0 0, .ref 20, .int 32 0, .int 0 0, .ref 27, .int 35 0, .int 0 0, .ref 34, .int 48 0, .int 0 0, .ref 41, .int 53 0, .int 0 0, .ref 48, .int 59 0, .int 0 0, .ref 55, .int 67 0, .int 0 0, .ref 73]), #[]⟩
@[irreducible] noncomputable def m3z (P : Params) : Obj := ⟨.type "dict", none, (.dict (List.toArray [⟨PyData.keyHash P (.ofString "__name__"), .str (.ofString "__name__") 165, .str (.ofString "law_wo0061_01") 2283⟩, ⟨PyData.keyHash P (.ofString "__doc__"), .str (.ofString "__doc__") 166, .none⟩, ⟨PyData.keyHash P (.ofString "__package__"), .str (.ofString "__package__") 167, .none⟩, ⟨PyData.keyHash P (.ofString "__loader__"), .str (.ofString "__loader__") 168, .builtin "__main__.__loader__#opaque"⟩, ⟨PyData.keyHash P (.ofString "__spec__"), .str (.ofString "__spec__") 169, .none⟩, ⟨PyData.keyHash P (.ofString "__annotations__"), .str (.ofString "__annotations__") 170, .ref 6⟩, ⟨PyData.keyHash P (.ofString "__builtins__"), .str (.ofString "__builtins__") 171, .ref 4⟩, ⟨PyData.keyHash P (.ofString "__file__"), .str (.ofString "__file__") 173, .str (.ofString "/claim/cut.py") 172⟩, ⟨PyData.keyHash P (.ofString "__cached__"), .str (.ofString "__cached__") 174, .none⟩, ⟨PyData.keyHash P (.ofString "ELLIPSIS_MARKER"), .str (.ofString "ELLIPSIS_MARKER") 190, .str (.ofString "...") 189⟩, ⟨PyData.keyHash P (.ofString "_ellipsis_match"), .str (.ofString "_ellipsis_match") 202, .ref 21⟩, ⟨PyData.keyHash P (.ofString "_strcoll"), .str (.ofString "_strcoll") 212, .ref 28⟩, ⟨PyData.keyHash P (.ofString "CHAR_MAX"), .str (.ofString "CHAR_MAX") 214, .int 127 213⟩, ⟨PyData.keyHash P (.ofString "_grouping_intervals"), .str (.ofString "_grouping_intervals") 223, .ref 35⟩, ⟨PyData.keyHash P (.ofString "concat"), .str (.ofString "concat") 234, .ref 42⟩, ⟨PyData.keyHash P (.ofString "countOf"), .str (.ofString "countOf") 244, .ref 49⟩, ⟨PyData.keyHash P (.ofString "indexOf"), .str (.ofString "indexOf") 254, .ref 56⟩, ⟨PyData.keyHash P (.ofString "b1_set"), .str (.ofString "b1_set") 316, .ref 64⟩, ⟨PyData.keyHash P (.ofString "in_table_b1"), .str (.ofString "in_table_b1") 323, .ref 74⟩, ⟨PyData.keyHash P (.ofString "b3_exceptions"), .str (.ofString "b3_exceptions") 2274, .ref 75⟩, ⟨PyData.keyHash P (.ofString "map_table_b3"), .str (.ofString "map_table_b3") 2282, .ref 120⟩, ⟨PyData.keyHash P (.ofString "_law_drawn"), .str (.ofString "_law_drawn") 2290, .ref 125⟩, ⟨PyData.keyHash P (.ofString "_law_order"), .str (.ofString "_law_order") 2300, .ref 132⟩, ⟨PyData.keyHash P (.ofString "_law_letter"), .str (.ofString "_law_letter") 2308, .ref 139⟩, ⟨PyData.keyHash P (.ofString "_law_unseen"), .str (.ofString "_law_unseen") 2315, .ref 146⟩, ⟨PyData.keyHash P (.ofString "_law_typed"), .str (.ofString "_law_typed") 2329, .ref 153⟩, ⟨PyData.keyHash P (.ofString "_law_read"), .str (.ofString "_law_read") 2338, .ref 160⟩, ⟨PyData.keyHash P (.ofString "_law_weave"), .str (.ofString "_law_weave") 2344, .ref 165⟩, ⟨PyData.keyHash P (.ofString "_law_unweave"), .str (.ofString "_law_unweave") 2350, .ref 170⟩, ⟨PyData.keyHash P (.ofString "law"), .str (.ofString "law") 2356, .ref 175⟩]) 30), #[]⟩
@[irreducible] noncomputable def m12z : Obj := ⟨.none, none, (.fields #[.int 3 0, .int 0 0, .ref 20, .int 32 0, .int 0 0, .ref 27, .int 35 0, .int 0 0, .ref 34, .int 48 0, .int 0 0, .ref 41, .int 53 0, .int 0 0, .ref 48, .int 59 0, .int 0 0, .ref 55, .int 67 0, .int 0 0, .ref 73, .int 70 0, .int 0 0, .ref 119, .int 76 0, .int 0 0, .ref 124, .int 80 0, .int 0 0, .ref 131, .int 86 0, .int 0 0, .ref 138, .int 92 0, .int 0 0, .ref 145, .int 98 0, .int 0 0, .ref 152, .int 116 0, .int 0 0, .ref 159, .int 122 0, .int 0 0, .ref 164, .int 137 0, .int 0 0, .ref 169, .int 153 0, .int 0 0, .ref 174]), #[]⟩

noncomputable def fz : Nat → Obj := fun _ => default
@[irreducible] noncomputable def x14 (Q : Params) : St := ⟨treeOf ((obF Q (m3a Q) m12a fz).take 75), 75, 324⟩
@[irreducible] noncomputable def x15 (Q : Params) (f : Nat → Obj) : St := ⟨treeOf ((obF Q (m3a Q) m12a f).take 114), 114, 2274⟩
@[irreducible] noncomputable def x25 (Q : Params) (f : Nat → Obj) : St := ⟨treeOf (obF Q (m3z Q) m12z f), 176, 2357⟩
noncomputable def p14 : Pos := ⟨67, 0, 68, 30⟩
noncomputable def p25 : Pos := ⟨153, 0, 180, 23⟩
/-- the code and the frame of the text's body -/
noncomputable def pre1 (w : World) : Option (Except Value Value × Pos × St) := ev dn ⟨P, w.params⟩ 100 Γ0 (PySem.W.Fast.tw17154629097778926822 P.main P.main.file none) pos0 (x0 w.params)
@[irreducible] noncomputable def x1 (w : World) : St := match pre1 w with
  | some (_, _, x) => x
  | none => ⟨.nil, 0, 0⟩
theorem pre1_ok : ∀ w : World, pre1 w = some (.ok (.ref 13), pos0, x1 w) := by intro w; kernel_rfl
noncomputable def pre2 (w : World) : Option (Except Value Addr × Pos × St) := ev dn ⟨P, w.params⟩ 100 Γ0 (PySem.W.Fast.tw12822647523644345616 (.ref 13) mainNs mainNs builtinsNs) pos0 (x1 w)
@[irreducible] noncomputable def x2 (w : World) : St := match pre2 w with
  | some (_, _, x) => x
  | none => ⟨.nil, 0, 0⟩
theorem pre2_ok : ∀ w : World, pre2 w = some (.ok 14, pos0, x2 w) := by intro w; kernel_rfl
noncomputable def pre3 (w : World) : Option (Except Value Unit × Pos × St) := ev dn ⟨P, w.params⟩ 100 Γb (PySem.W.Fast.tw1066825118222455980 stmts env) pos0 (x2 w)
theorem pre3_ok : ∀ w : World, pre3 w = some (.ok (), pos0, x2 w) := by intro w; kernel_rfl
theorem run14 : ∀ w : World, ev dn ⟨P, w.params⟩ 3000 Γb (PySem.W.Fast.tw12563942051412417395 (stmts.take 14) env) pos0 (x2 w) = some (.ok .next, p14, x14 w.params) :=
  byRow2 "special-get-raises" (by intro w; kernel_rfl) (by intro w; kernel_rfl)
@[irreducible] noncomputable def st14 : Stmt := (stmts[14]?).getD (.Pass pos0)
@[irreducible] noncomputable def tgt14 : List PySem.Expr := match st14 with
  | .Assign ts _ _ => ts
  | _ => []
@[irreducible] noncomputable def val14 : PySem.Expr := match st14 with
  | .Assign _ v _ => v
  | _ => .Constant .none 0 pos0
@[irreducible] noncomputable def pos14 : Pos := match st14 with
  | .Assign _ _ p => p
  | _ => pos0
@[irreducible] noncomputable def keys14 : List (Option PySem.Expr) := match val14 with
  | .Dict ks _ _ => ks
  | _ => []
@[irreducible] noncomputable def vals14 : List PySem.Expr := match val14 with
  | .Dict _ vs _ => vs
  | _ => []
@[irreducible] noncomputable def dpos14 : Pos := match val14 with
  | .Dict _ _ p => p
  | _ => pos0
noncomputable def rowOf : Option PySem.Expr × PySem.Expr → Option Row
  | (some (.Constant (.int i) k1 p1), .Constant (.str x) k2 p2) => some ⟨i, x, k1, p1, k2, p2⟩
  | _ => none
@[irreducible] noncomputable def rows14 : List Row := (keys14.zip vals14).filterMap rowOf
@[irreducible] noncomputable def tl14 (v : Value) : Sem Flow := do assignStores env v (← swappedStores tgt14 val14 env) ((assignEach tgt14 env).map (·.2))
theorem split14 : exec st14 env = (do standAt pos14; let v ← eval val14 env; tl14 v) := by kernel_rfl
theorem keys14_ok : keys14 = rows14.map fun r => some (.Constant (.int r.i) r.k1 r.p1) := by kernel_rfl
theorem vals14_ok : vals14 = rows14.map fun r => .Constant (.str r.x) r.k2 r.p2 := by kernel_rfl
theorem val14_ok : val14 = .Dict keys14 vals14 dpos14 := by kernel_rfl
theorem rows14_len : rows14.length = 650 := by kernel_rfl
noncomputable def rises : List Int → Bool
  | [] => true
  | [_] => true
  | a :: b :: r => decide (a < b) && rises (b :: r)
theorem rises_lt : ∀ {a : Int} {l : List Int}, rises (a :: l) = true → ∀ b ∈ l, a < b
  | _, [], _ => fun _ h => nomatch h
  | a, c :: l, h => by
    obtain ⟨h1, h2⟩ := Bool.and_eq_true_iff.mp (show (decide (a < c) && rises (c :: l)) = true from h)
    have h1 := of_decide_eq_true h1
    intro b hb
    rcases List.mem_cons.mp hb with rfl | hb
    · exact h1
    · exact Int.lt_trans h1 (rises_lt h2 b hb)
theorem rises_nodup : ∀ {l : List Int}, rises l = true → l.Nodup
  | [], _ => List.nodup_nil
  | [_], _ => by simp
  | a :: b :: l, h => by
    have h2 := (Bool.and_eq_true_iff.mp (show (decide (a < b) && rises (b :: l)) = true from h)).2
    refine List.nodup_cons.mpr ⟨fun hm => absurd (rises_lt h a hm) (Int.lt_irrefl a), rises_nodup h2⟩
theorem rows14_rises : rises (rows14.map (·.i)) = true := by kernel_rfl
theorem rows14_nodup : (rows14.map (·.i)).Nodup := rises_nodup rows14_rises
theorem stmts_split : stmts = stmts.take 14 ++ st14 :: stmts.drop 15 := by kernel_rfl
noncomputable def post14 (f : Nat → Obj) (w : World) (p : Pos) : Option (Except Value Flow × Pos × St) := ev dn ⟨P, w.params⟩ 300 Γb (tl14 (.ref 75)) p (x15 w.params f)
@[irreducible] noncomputable def x16 (f : Nat → Obj) (w : World) (p : Pos) : St := match post14 f w p with
  | some (_, _, x) => x
  | none => ⟨.nil, 0, 0⟩
@[irreducible] noncomputable def p16 (f : Nat → Obj) (w : World) (p : Pos) : Pos := match post14 f w p with
  | some (_, p, _) => p
  | none => pos0
theorem post14_ok : ∀ (f : Nat → Obj) (w : World) (p : Pos), post14 f w p = some (.ok .next, p16 f w p, x16 f w p) := by intro f w p; kernel_rfl
theorem run25 : ∀ (f : Nat → Obj) (w : World) (p : Pos), ev dn ⟨P, w.params⟩ 3000 Γb (PySem.W.Fast.tw12563942051412417395 (stmts.drop 15) env) (p16 f w p) (x16 f w p) = some (.ok .next, p25, x25 w.params f) := by intro f w p; kernel_rfl
theorem obs75 : ∀ (Q : Params) (f : Nat → Obj), (x15 Q f).tree.list 114 = (obF Q (m3a Q) m12a fz).take 75 ++ (List.range' 75 39).map f := by intro Q f; kernel_rfl
theorem al14 : ∀ Q : Params, (List.range 75).map (fun i => ((x14 Q).tree.get i).bind alive) = ((obF Q (m3a Q) m12a fz).take 75).map some := by intro Q; kernel_rfl
theorem len14 : ∀ Q : Params, ((obF Q (m3a Q) m12a fz).take 75).length = 75 := by intro Q; kernel_rfl
theorem at75 : ∀ (Q : Params) (f : Nat → Obj), (x25 Q f).tree.get 75 = some (f 75) := by intro Q f; kernel_rfl
theorem boot_is : ∀ Q : Params, absHeap (treeOf (bootL Q)) 11 (boot_heap Q).life = boot_heap Q := by intro Q; kernel_rfl
theorem body_is (b : List Stmt) (e : Env) : denote table (.body b e) = (blockStart b e).bind (fun _ => ((execs b e).onRaise (leaving e)).bind fun f => (Sem.pure (Fin.done f) : Sem PySem.Fin)) := rfl
theorem x14_n (Q : Params) : (x14 Q).n = 75 := by kernel_rfl
theorem x14_toks (Q : Params) : (x14 Q).toks = 324 := by kernel_rfl
theorem x15_is (Q : Params) (f : Nat → Obj) : x15 Q f = ⟨(x15 Q f).tree, 114, 2274⟩ := by kernel_rfl
theorem x25_is (Q : Params) (f : Nat → Obj) : x25 Q f = ⟨(x25 Q f).tree, 176, 2357⟩ := by kernel_rfl
theorem x0_is (Q : Params) : x0 Q = ⟨treeOf (bootL Q), 11, boot_toks⟩ := by kernel_rfl
theorem env_is : ({ scope := P.main.scope, locals := mainNs, globals := mainNs, cells := [], code := .ref 13, frame := some 14 } : Env) = env := by kernel_rfl
theorem stmts_is : behindTheImports P = stmts := by kernel_rfl
theorem Γb_handled : Γb.handled = none := by kernel_rfl
theorem Γb_is : Γ0.enter (.body stmts env) none pos0 = Γb := by kernel_rfl
theorem Γb_code : Γb.code = .body stmts env := by kernel_rfl
end
end Mine
end
theorem Mine.rs4 : True := by k_with_none; w_top off; trivial
section
open PySem PySem.W PyProof.Rows
set_option maxRecDepth 100000
set_option maxHeartbeats 0
namespace Mine
noncomputable section
@[irreducible] noncomputable def sF (Q : Params) (f : Nat → Obj) (os : OsState) : Shared := ⟨absHeap (x25 Q f).tree 176 {}, #[], boot_drawn, 2357, os⟩
theorem sF_is (Q : Params) (f : Nat → Obj) (os : OsState) : sF Q f os = ⟨absHeap (x25 Q f).tree 176 {}, #[], boot_drawn, 2357, os⟩ := by unfold sF; rfl
abbrev Xt : Shared → Bool := fun s => xlAt vw [] s && recOk [] s
theorem lk1 : ∀ (f : Nat → Obj) (w : World) (os : OsState), (PySem.W.Fast.tw4187177175401517315 vw loose (importedModules P.main.body) Xt true (sF w.params f os)).1 = (openGood vw loose).1 := by intro f w os; kernel_rfl
theorem lk2 : ∀ (f : Nat → Obj) (w : World) (os : OsState), (PySem.W.Fast.tw4187177175401517315 vw loose (importedModules P.main.body) Xt true (sF w.params f os)).2.1 = (openGood vw loose).2.1 := by intro f w os; kernel_rfl
theorem lk4 : ∀ (f : Nat → Obj) (w : World) (os : OsState), (PySem.W.Fast.tw4187177175401517315 vw loose (importedModules P.main.body) Xt true (sF w.params f os)).2.2.2.1 = (openGood vw loose).2.2.2.1 := by intro f w os; kernel_rfl
theorem lk5 : ∀ (f : Nat → Obj) (w : World) (os : OsState), (PySem.W.Fast.tw4187177175401517315 vw loose (importedModules P.main.body) Xt true (sF w.params f os)).2.2.2.2.1 = (openGood vw loose).2.2.2.2.1 := by intro f w os; kernel_rfl
theorem lk6 : ∀ (f : Nat → Obj) (w : World) (os : OsState), (PySem.W.Fast.tw4187177175401517315 vw loose (importedModules P.main.body) Xt true (sF w.params f os)).2.2.2.2.2.1 = (openGood vw loose).2.2.2.2.2.1 := by intro f w os; kernel_rfl
theorem lk7 : ∀ (f : Nat → Obj) (w : World) (os : OsState), (PySem.W.Fast.tw4187177175401517315 vw loose (importedModules P.main.body) Xt true (sF w.params f os)).2.2.2.2.2.2.1 = (openGood vw loose).2.2.2.2.2.2.1 := by intro f w os; kernel_rfl
theorem lk8 : ∀ (f : Nat → Obj) (w : World) (os : OsState), (PySem.W.Fast.tw4187177175401517315 vw loose (importedModules P.main.body) Xt true (sF w.params f os)).2.2.2.2.2.2.2.1 = (openGood vw loose).2.2.2.2.2.2.2.1 := by intro f w os; kernel_rfl
theorem lk9 : ∀ (f : Nat → Obj) (w : World) (os : OsState), (PySem.W.Fast.tw4187177175401517315 vw loose (importedModules P.main.body) Xt true (sF w.params f os)).2.2.2.2.2.2.2.2 = (openGood vw loose).2.2.2.2.2.2.2.2 := by intro f w os; kernel_rfl
theorem lk3a : ∀ (f : Nat → Obj) (w : World) (os : OsState), (sF w.params f os).heap.keysOk (looseW vw loose) ((recsOf vw).map (·.name)) ((litsOf vw).map (·.1)) ((clssOf vw (looseW vw loose)).map (·.name)) = true := by intro f w os; kernel_rfl
theorem lk3b : ∀ (f : Nat → Obj) (w : World) (os : OsState), (sF w.params f os).heap.accountedOkI (importedModules P.main.body) = true := by intro f w os; kernel_rfl
theorem lk3c : ∀ (f : Nat → Obj) (w : World) (os : OsState), (sF w.params f os).heap.isNs mainGlobals = true := by intro f w os; kernel_rfl
theorem lk3d : ∀ (f : Nat → Obj) (w : World) (os : OsState), (sF w.params f os).heap.isNs builtinsNs = true := by intro f w os; kernel_rfl
theorem lk3e : ∀ (f : Nat → Obj) (w : World) (os : OsState), tablesOk vw (sF w.params f os).heap = true := by intro f w os; kernel_rfl
theorem lk3f : ∀ (f : Nat → Obj) (w : World) (os : OsState), xlAt vw [] (sF w.params f os) = true := by intro f w os; kernel_rfl
theorem lk3g : ∀ (f : Nat → Obj) (w : World) (os : OsState), recOk [] (sF w.params f os) = true := by intro f w os; kernel_rfl
theorem lk3 : ∀ (f : Nat → Obj) (w : World) (os : OsState), (openSeen vw loose (importedModules P.main.body) Xt true (sF w.params f os)).2.2.1 = true := by
  intro f w os
  show (_ && _ && _ && _ && _ && (xlAt vw [] _ && recOk [] _) && _) = true
  rw [lk3a, lk3b, lk3c, lk3d, lk3e, lk3f, lk3g, sF_is]
  rfl
theorem looks (f : Nat → Obj) (w : World) (os : OsState) : openSeen vw loose (importedModules P.main.body) Xt true (sF w.params f os) = openGood vw loose := by
  have e := PySem.W.Fast.te4187177175401517315
  refine Prod.ext ?_ (Prod.ext ?_ (Prod.ext ?_ (Prod.ext ?_ (Prod.ext ?_ (Prod.ext ?_ (Prod.ext ?_ (Prod.ext ?_ ?_)))))))
  · rw [e]; exact lk1 f w os
  · rw [e]; exact lk2 f w os
  · exact lk3 f w os
  · rw [e]; exact lk4 f w os
  · rw [e]; exact lk5 f w os
  · rw [e]; exact lk6 f w os
  · rw [e]; exact lk7 f w os
  · rw [e]; exact lk8 f w os
  · rw [e]; exact lk9 f w os
theorem stats : ∀ (f : Nat → Obj) (w : World) (os : OsState), (staticsOk (importedModules P.main.body) (boot_heap w.params) (sF w.params f os).heap && namesBound P (sF w.params f os).heap && gensDone (sF w.params f os) && laidKept (boot_heap w.params) (sF w.params f os).heap) = true := by intro f w os; kernel_rfl
theorem olds : ∀ (f : Nat → Obj) (w : World) (os : OsState), [0, 1, 2, 4, 5, 6, 7, 8, 9, 10].map (sF w.params f os).heap.get? = [0, 1, 2, 4, 5, 6, 7, 8, 9, 10].map (boot_heap w.params).get? := by intro f w os; kernel_rfl
noncomputable def adr : List Addr := [2, 3, 6, 15, 17, 18, 20, 21, 22, 24, 25, 27, 28, 29, 31, 32, 34, 35, 36, 38, 39, 41, 42, 43, 45, 46, 48, 49, 50, 52, 53, 55, 56, 64, 68, 70, 71, 73, 74, 114, 116, 117, 119, 120, 121, 124, 125, 126, 128, 129, 131, 132, 133, 135, 136, 138, 139, 140, 142, 143, 145, 146, 147, 149, 150, 152, 153, 154, 156, 157, 159, 160, 161, 164, 165, 166, 169, 170, 171, 174, 175]
theorem adr_ok : ∀ Q : Params, adr = (KK Q).map (·.1) := by intro Q; kernel_rfl
theorem inKK : ∀ (f : Nat → Obj) (w : World) (os : OsState), adr.map (sF w.params f os).heap.get? = (KK w.params).map fun p => some p.2 := by intro f w os; kernel_rfl
theorem life0 : ∀ w : World, (boot_heap w.params).life = {} := by intro w; kernel_rfl
theorem size0 : ∀ w : World, (boot_heap w.params).objs.size = 11 := by intro w; kernel_rfl
theorem ns0 : ∀ w : World, (boot_heap w.params).isNs mainGlobals = true := by intro w; kernel_rfl
end
end Mine
end
theorem Mine.rs5 : True := by k_with_none; w_top off; trivial
section
open PySem PySem.W PyProof.Rows
set_option maxRecDepth 100000
set_option maxHeartbeats 4000000
namespace Mine

theorem ev_use {w : World} {b : Shared} {n : Nat} {α : Type} {Γ : Ctx} {t : Sem α} {p : Pos} {x : St} {r : Except Value α × Pos × St} (h : ev dn ⟨P, w.params⟩ n Γ t p x = some r)
    {Q : α → Pos → Shared → Prop} {E : Value → Pos → Shared → Prop} (hs : Says b Q E r) : Sem.wp (model P w) Γ t Q E p (x.sh b) :=
  ev_sound (M := model P w) (b := b) n Γ t p x r (by
    have e : (model P w).den = dn := dn_eq
    rw [e]; exact h) Q E hs

theorem wp_execs_app {M : Model} {Γ : Ctx} {env : Env} {E : Value → Pos → Shared → Prop} (l r : List Stmt) : ∀ (Q : Flow → Pos → Shared → Prop) (p : Pos) (s : Shared),
    Sem.wp M Γ (execs l env) (fun f p' s' => match f with
      | .next => Sem.wp M Γ (execs r env) Q E p' s'
      | f => Q f p' s') E p s → Sem.wp M Γ (execs (l ++ r) env) Q E p s := by
  induction l with
  | nil => intro Q p s h; exact h
  | cons a l ih =>
    intro Q p s h
    rw [List.cons_append, execs_cons, Sem.wp_bind']
    rw [execs_cons, Sem.wp_bind'] at h
    refine Sem.wp_mono M Γ _ (fun f p' s' h' => ?_) (fun _ _ _ e => e) p s h
    cases f with
    | next => exact ih Q p' s' h'
    | _ => exact h'

theorem get_obj {h : Heap} {a : Nat} {o : Obj} (e : h.get? a = some o) : h.objs[a]? = some o ∧ alive o = some o := by
  unfold Heap.get? at e
  split at e
  · cases e
  · rename_i hne
    refine ⟨e, ?_⟩
    obtain ⟨c, d, dt, sl⟩ := o
    cases dt <;> first | rfl | exact absurd e (by
      intro q
      exact hne _ _ _ q)

/-- the state behind the statement of the table, written out but for what it made -/
theorem is15 {Q : Params} {h : Heap} {b : Shared} (hsz : h.objs.size = 114) (hk : ∀ i, i < 75 → h.get? i = ((x14 Q).sh b).heap.get? i) :
    h = absHeap (x15 Q (fun i => (h.objs[i]?).getD default)).tree 114 h.life := by
  have e : h.objs = ((x15 Q (fun i => (h.objs[i]?).getD default)).tree.list 114).toArray := by
    rw [obs75]
    apply Array.ext_getElem?
    intro i
    rw [List.getElem?_toArray (xs := _ ++ _), List.getElem?_append, len14]
    by_cases h1 : i < 75
    · rw [if_pos h1]
      have ha := congrArg (fun l => l[i]?) (al14 Q)
      simp only [List.getElem?_map, List.getElem?_range h1, Option.map_some] at ha
      cases hg : (x14 Q).tree.get i with
      | none =>
        rw [hg] at ha
        cases hx : ((obF Q (m3a Q) m12a fz).take 75)[i]? with
        | none => exact absurd (List.getElem?_eq_none_iff.mp hx) (by rw [len14]; omega)
        | some o => rw [hx] at ha; cases ha
      | some o =>
        rw [hg] at ha
        cases hx : ((obF Q (m3a Q) m12a fz).take 75)[i]? with
        | none => exact absurd (List.getElem?_eq_none_iff.mp hx) (by rw [len14]; omega)
        | some o' =>
          rw [hx] at ha
          have ha : alive o = some o' := Option.some.inj ha
          have g : ((x14 Q).sh b).heap.get? i = some o' := by
            have z := (abs_get (life := b.heap.life) h1 hg).trans ha
            show (absHeap (x14 Q).tree (x14 Q).n b.heap.life).get? i = _
            rw [x14_n]; exact z
          exact (get_obj ((hk i h1).trans g)).1
    · rw [if_neg h1, List.getElem?_map]
      by_cases h2 : i < 114
      · have : (List.range' 75 39)[i - 75]? = some i := by
          rw [List.getElem?_range' (by omega)]
          congr 1; omega
        rw [this]
        have hi : i < h.objs.size := by omega
        simp [hi]
      · have : (List.range' 75 39)[i - 75]? = none := by
          rw [List.getElem?_eq_none_iff, List.length_range']; omega
        rw [this]
        have hi : ¬ i < h.objs.size := by omega
        simp [hi]
  show h = ⟨_, h.life⟩
  rw [← e]

noncomputable def A14 : Around := { handled := none, depth := frameCount Γb.below + Γb.code.weight, frames := none, guards := none, units := Γb.units }
theorem in14 : Γb.In A14 := ⟨Γb_handled, Nat.le_refl _, (fun _ h => nomatch h), (fun _ h => nomatch h), Nat.le_refl _⟩

theorem eachOpt (env : Env) : ∀ rows : List Row, evalEachOpt (rows.map fun r => some (.Constant (.int r.i) r.k1 r.p1)) env = rows.map fun r => some (eval (.Constant (.int r.i) r.k1 r.p1) env)
  | [] => rfl
  | r :: rows => by
    rw [List.map_cons, List.map_cons, ← eachOpt env rows]; rfl
theorem each (env : Env) : ∀ rows : List Row, evalEach (rows.map fun r => .Constant (.str r.x) r.k2 r.p2) env = rows.map fun r => eval (.Constant (.str r.x) r.k2 r.p2) env
  | [] => rfl
  | r :: rows => by
    rw [List.map_cons, List.map_cons, ← each env rows]; rfl
theorem items_are (env : Env) (pos : Pos) : ∀ rows : List Row, (rows.map fun r => some (eval (.Constant (.int r.i) r.k1 r.p1) env)).zip ((rows.map fun r => eval (.Constant (.str r.x) r.k2 r.p2) env).map fun v => do let x ← v; standAt pos; pure x) = rows.map (Row.itm env pos)
  | [] => rfl
  | r :: rows => by
    rw [List.map_cons, List.map_cons, List.map_cons, List.zip_cons_cons, List.map_cons, items_are env pos rows]

/-- what the run of the top leaves -/
noncomputable def Good (w : World) (os : OsState) (s : Shared) : Prop :=
  ∃ f kvs life, RowsAre rows14 kvs ∧ s = ⟨absHeap (x25 w.params f).tree 176 life, #[], boot_drawn, 2357, os⟩ ∧ s.heap.DictOf (kI P w) 75 kvs

noncomputable def sB (w : World) (os : OsState) : Shared := ⟨boot_heap w.params, #[], boot_drawn, boot_toks, os⟩
theorem sB_is (w : World) (os : OsState) : (x0 w.params).sh (sB w os) = sB w os := by
  rw [x0_is]
  show Shared.mk (absHeap (treeOf (bootL w.params)) 11 (boot_heap w.params).life) _ _ _ _ = _
  rw [boot_is]; rfl

theorem wp_stand {M : Model} {Γ : Ctx} {pos p : Pos} {s : Shared} {Q : Unit → Pos → Shared → Prop} {E : Value → Pos → Shared → Prop} (h : Q () pos s) : Sem.wp M Γ (standAt pos) Q E p s := h

theorem evalTable {w : World} {A : Around} {E : Value → Shared → Prop} {s : Shared} {Q : Value → Shared → Prop} (hsys : sysModules < s.heap.objs.size)
    (hQ : ∀ h' kvs, RowsAre rows14 kvs → h'.DictOf (kI P w) s.heap.objs.size kvs → h'.objs.size = s.heap.objs.size + 39 → (∀ b, b < s.heap.objs.size → h'.get? b = s.heap.get? b) → Q (.ref s.heap.objs.size) { s with heap := h', toks := s.toks + 1950 }) :
    wpAny (model P w) A (eval val14 env) Q E s := by
  rw [val14_ok, arm_eval_Dict, keys14_ok, vals14_ok, eachOpt, each, items_are]
  refine wpAny_bind (wpAny_standAt ?_)
  refine display_ok rows14 s Q rows14_nodup ?_ ?_ hsys ?_
  · intro e
    have := rows14_len
    rw [e] at this
    cases this
  · rw [rows14_len, sizeLine_eq]; decide
  · rw [rows14_len]
    exact hQ

theorem x14_sh {w : World} {b : Shared} : (x14 w.params).sh b = ⟨absHeap (x14 w.params).tree 75 b.heap.life, b.gens, b.drawn, 324, b.os⟩ := by
  show Shared.mk (absHeap (x14 w.params).tree (x14 w.params).n b.heap.life) b.gens b.drawn (x14 w.params).toks b.os = _
  rw [x14_n, x14_toks]
theorem x15_sh {w : World} {f : Nat → Obj} {b : Shared} : (x15 w.params f).sh b = ⟨absHeap (x15 w.params f).tree 114 b.heap.life, b.gens, b.drawn, 2274, b.os⟩ := by
  rw [x15_is]; rfl
theorem x25_sh {w : World} {f : Nat → Obj} {b : Shared} : (x25 w.params f).sh b = ⟨absHeap (x25 w.params f).tree 176 b.heap.life, b.gens, b.drawn, 2357, b.os⟩ := by
  rw [x25_is]; rfl

theorem wp14 {w : World} {os : OsState} {b : Shared} {Q : Flow → Pos → Shared → Prop} {p : Pos} (hg : b.gens = #[]) (hd : b.drawn = boot_drawn) (ho : b.os = os)
    (h : ∀ p' s', Good w os s' → Q .next p' s') : Sem.wp (model P w) Γb (execs (st14 :: stmts.drop 15) env) Q (fun _ _ _ => False) p ((x14 w.params).sh b) := by
  rw [execs_cons, split14, Sem.wp_bind', Sem.wp_bind']
  refine wp_stand ?_
  rw [Sem.wp_bind']
  have sz : ((x14 w.params).sh b).heap.objs.size = 75 := by rw [x14_sh]; exact absHeap_size _ _ _
  refine Sem.wp_mono _ _ _ (fun a p' s' k => k p') (fun _ _ _ e => e) _ _ (evalTable (A := A14) (E := fun _ _ => False) (Q := fun a s' => ∀ p', _) (by rw [sz]; decide) (fun h' kvs hr hD hs hk => ?_) Γb pos14 in14)
  intro p'
  rw [sz] at hs hD hk ⊢
  have e := is15 (b := b) hs hk
  have es : (⟨h', ((x14 w.params).sh b).gens, ((x14 w.params).sh b).drawn, ((x14 w.params).sh b).toks + 1950, ((x14 w.params).sh b).os⟩ : Shared) =
      (x15 w.params (fun i => (h'.objs[i]?).getD default)).sh { b with heap := h' } := by
    rw [x15_sh, x14_sh]
    exact congrArg (fun k => Shared.mk k b.gens b.drawn 2274 b.os) e
  show Sem.wp (model P w) Γb (tl14 (.ref 75)) _ _ p' (⟨h', ((x14 w.params).sh b).gens, ((x14 w.params).sh b).drawn, ((x14 w.params).sh b).toks + 1950, ((x14 w.params).sh b).os⟩ : Shared)
  rw [es]
  refine ev_use (post14_ok _ w p') ?_
  show Sem.wp (model P w) Γb (execs (stmts.drop 15) env) _ _ _ _
  rw [show execs = PySem.W.Fast.tw12563942051412417395 from PySem.W.Fast.te12563942051412417395]
  refine ev_use (run25 _ w p') ?_
  refine h p25 _ ⟨(fun i => (h'.objs[i]?).getD default), kvs, h'.life, hr, ?_, ?_⟩
  · rw [x25_sh, hg, hd, ho]
  · rw [x25_sh]
    obtain ⟨o, es', ep, g, r⟩ := hD
    obtain ⟨g1, g2⟩ := get_obj g
    refine ⟨o, es', ep, ?_, r⟩
    refine (abs_get (by decide) (at75 _ _)).trans ?_
    rw [g1]
    exact g2

theorem top_wp (w : World) (os : OsState) : Sem.wp (model P w) Γ0 (topStub P).cur (fun fin _ s' => fin = .done (.ret .none) ∧ Good w os s') (fun _ _ _ => False) pos0 (sB w os) := by
  show Sem.wp (model P w) Γ0 (do
      let code ← moduleCode P.main
      let frame ← newBodyFrame code mainNs mainNs
      let _ ← run (.body (behindTheImports P) { scope := P.main.scope, locals := mainNs, globals := mainNs, cells := [], code, frame := some frame })
      ret .none) _ _ _ _
  rw [← sB_is w os, Sem.wp_bind']
  have e1 : moduleCode P.main = PySem.W.Fast.tw17154629097778926822 P.main P.main.file none := congrFun (congrFun (congrFun PySem.W.Fast.te17154629097778926822 P.main) P.main.file) none
  rw [e1]
  refine ev_use (pre1_ok w) ?_
  show Sem.wp (model P w) Γ0 _ _ _ pos0 ((x1 w).sh (sB w os))
  rw [Sem.wp_bind']
  have e2 : newBodyFrame (.ref 13) mainNs mainNs = PySem.W.Fast.tw12822647523644345616 (.ref 13) mainNs mainNs builtinsNs := congrFun (congrFun (congrFun (congrFun PySem.W.Fast.te12822647523644345616 (.ref 13)) mainNs) mainNs) builtinsNs
  rw [e2]
  refine ev_use (pre2_ok w) ?_
  show Sem.wp (model P w) Γ0 _ _ _ pos0 ((x2 w).sh (sB w os))
  rw [Sem.wp_bind', Sem.wp_run]
  rw [stmts_is, env_is, Γb_is, wpCode_iff_wp, Γb_code]
  show Sem.wp (model P w) Γb (denote table (.body stmts env)) _ _ _ _
  rw [body_is, Sem.wp_bind]
  rw [show blockStart = PySem.W.Fast.tw1066825118222455980 from PySem.W.Fast.te1066825118222455980]
  refine ev_use (pre3_ok w) ?_
  show Sem.wp (model P w) Γb _ _ _ pos0 ((x2 w).sh (sB w os))
  rw [Sem.wp_bind, Sem.wp_onRaise, stmts_split]
  refine wp_execs_app _ _ _ _ _ ?_
  rw [show execs = PySem.W.Fast.tw12563942051412417395 from PySem.W.Fast.te12563942051412417395]
  refine ev_use (run14 w) ?_
  rw [← show execs = PySem.W.Fast.tw12563942051412417395 from PySem.W.Fast.te12563942051412417395]
  show Sem.wp (model P w) Γb (execs (st14 :: stmts.drop 15) env) _ _ p14 ((x14 w.params).sh (sB w os))
  refine Sem.wp_mono _ _ _ (fun _ _ _ k => k) (fun _ _ _ k => k.elim) _ _ (wp14 (os := os) rfl rfl rfl fun p' s' g => ?_)
  exact ⟨rfl, g⟩
end Mine
end
theorem Mine.rs6 : True := by k_with_none; w_top off; trivial
section
open PySem PySem.W PyProof.Rows
set_option maxRecDepth 100000
set_option maxHeartbeats 4000000
namespace Mine

theorem halt_through {den : Code → Sem Fin} {p : Program} {w : World} {s s' : Shared} {t : Thread} {f : Flow} (h : step den p w s t = .halt (.done f) s') : through t = true ∧ s = s' := by
  have hs := step_halt_same den p w s s' t _ h
  refine ⟨?_, hs.symm⟩
  obtain ⟨heap, gens, drawn, toks, os⟩ := s
  obtain ⟨cur, code, pos, stack⟩ := t
  cases cur with
  | pure fin =>
    cases fin with
    | done g =>
      cases stack with
      | nil => rfl
      | cons F r => cases F <;> (simp only [step] at h; cases h)
    | again c => simp only [step] at h; cases h
  | raise e =>
    cases stack with
    | nil =>
      simp only [step, finish] at h
      split at h <;> cases h
    | cons F r => cases F <;> (simp only [step] at h; cases h)
  | finish e =>
    simp only [step, finish] at h
    split at h <;> cases h
  | _ => (simp only [step] at h; repeat' split at h) <;> cases h

theorem ran_through {den : Code → Sem Fin} {p : Program} {w : World} {f : Flow} : ∀ (n : Nat) (s s' : Shared) (t : Thread), runN den p w n s t = .halted (.done f) s' → ∃ k t', runN den p w k s t = .running s' t' ∧ through t' = true
  | 0, _, _, _, h => by cases h
  | n + 1, s, s', t, h => by
    simp only [runN] at h
    cases hs : step den p w s t with
    | go s₁ t₁ =>
      rw [hs] at h
      obtain ⟨k, t', a, b⟩ := ran_through n s₁ s' t₁ h
      exact ⟨k + 1, t', by simp only [runN, hs]; exact a, b⟩
    | halt o s₁ =>
      rw [hs] at h
      cases h
      obtain ⟨a, b⟩ := halt_through hs
      exact ⟨0, t, by rw [← b]; rfl, a⟩

theorem top_ran (w : World) (os : OsState) (hz : (sB w os).asleep) : ∃ s₁, Good w os s₁ ∧ s₁.heap.life = (sB w os).heap.life ∧ ∃ n t, schedN (denote table) P w n (.single (sB w os) (topStub P)) = .running (.single s₁ t) ∧ through t = true := by
  have h := top_wp w os
  have h' : Sem.wp (model P w) Γ0 (topStub P).cur (Sem.finPost (model P w) Γ0 fun r s' => (r = .ok (.ret .none) ∧ Good w os s' ∧ s'.gens = #[]) ∧ leftWithCleanup s'.gens = false)
      (fun e _ s' => (Except.error e = (Except.ok (.ret .none) : Result) ∧ Good w os s' ∧ s'.gens = #[]) ∧ leftWithCleanup s'.gens = false) pos0 (sB w os) := by
    refine Sem.wp_mono _ _ _ (fun fin _ s' k => ?_) (fun _ _ _ k => k.elim) _ _ h
    obtain ⟨rfl, g⟩ := k
    have hg : s'.gens = #[] := by
      obtain ⟨f, kvs, life, _, e, _⟩ := g
      rw [e]
    exact ⟨⟨rfl, g, hg⟩, by rw [hg]; simp [leftWithCleanup]⟩
  obtain ⟨n, r, s', hn, rfl, g, hg⟩ := (wp_iff_halts (M := model P w) (c := .builtin "claim.caller" {}) (R := fun r s' => r = .ok (.ret .none) ∧ Good w os s' ∧ s'.gens = #[]) _ _ _).mp h'
  obtain ⟨s'', hr, hf, hc⟩ := runNI_real _ _ _ hn (outcomeOf_ends _)
  obtain rfl : s'' = s' := Shared.eq_of_forget_eq hf hg
  obtain ⟨s3, hsch, hr3, _⟩ := runNI_full _ _ _ hn (outcomeOf_ends _) hz
  obtain ⟨k, t', hk, ht⟩ := ran_through n _ _ _ hr
  have hne : ∀ k s₂, runN (denote table) P w k (sB w os) (topStub P) ≠ .halted (.unsupported "lifetime:generator-with-cleanup-left-suspended") s₂ := by
    intro k s₂ hk
    have a := runN_mono (denote table) P w n k _ _ _ _ hr
    have b := runN_mono (denote table) P w k n _ _ _ _ hk
    rw [Nat.add_comm] at a
    have := a.symm.trans b
    cases this
  refine ⟨s'', g, runN_life _ _ _ hr, k, t', ?_, ht⟩
  exact (schedN_eq_runN (denote table) P w _ _ hz ⟨hc, hne⟩ k).trans (congrArg Run.lift hk)
end Mine
end
theorem Mine.rs7 : True := by k_with_none; w_top off; trivial
section
open PySem PySem.W PyProof.Rows PySem.Calls
set_option maxRecDepth 100000
set_option maxHeartbeats 4000000
namespace Mine

abbrev XPm : (Str → Option Value) → Heap → Prop := XL vw []
/-- what the head hands to the call, beside the ground: the text's own objects, and the table of the foldings -/
noncomputable def YPm (w : World) (h : Heap) : Prop := (KK w.params).In h ∧ ∃ kvs, RowsAre rows14 kvs ∧ h.DictOf (kI P w) 75 kvs
theorem YPm.keeps {w : World} {h h' : Heap} (y : YPm w h) (k : ∀ b o, h.get? b = some o → h'.get? b = some o) : YPm w h' :=
  ⟨y.1.keeps k, let ⟨kvs, r, o, es, ep, g, z⟩ := y.2; ⟨kvs, r, o, es, ep, k _ _ g, z⟩⟩

theorem top_ranF (w : World) (os : OsState) (hz : (sB w os).asleep) : ∃ f, (∃ n t, schedN (denote table) P w n (.single (sB w os) (topStub P)) = .running (.single (sF w.params f os) t) ∧ through t = true) ∧ YPm w (sF w.params f os).heap := by
  obtain ⟨s₁, ⟨f, kvs, life, hr, e, hD⟩, hl, hn⟩ := top_ran w os hz
  have hl0 : (sB w os).heap.life = {} := life0 w
  have : life = {} := by
    rw [e, hl0] at hl
    exact hl
  subst this
  have e' : s₁ = sF w.params f os := by rw [e, sF_is]
  subst e'
  exact ⟨f, hn, Frag.in_of (adr_ok _) (inKK f w os), kvs, hr, hD⟩

theorem old_at {f : Nat → Obj} {w : World} {os : OsState} {b : Nat} {o : Obj} (h : (boot_heap w.params).get? b = some o) (hm' : b ≠ mainNs) : (sF w.params f os).heap.get? b = some o := by
  have hb : b < 11 := by have := Heap.lt_size h; rw [size0] at this; exact this
  have hm : b ≠ (3 : Nat) := hm'
  have z := olds f w os
  simp only [List.map_cons, List.map_nil, List.cons.injEq] at z
  obtain ⟨z0, z1, z2, z4, z5, z6, z7, z8, z9, z10, _⟩ := z
  match b, hb, hm, h with
  | 0, _, _, h => rw [z0]; exact h
  | 1, _, _, h => rw [z1]; exact h
  | 2, _, _, h => rw [z2]; exact h
  | 3, _, hm, _ => exact absurd rfl hm
  | 4, _, _, h => rw [z4]; exact h
  | 5, _, _, h => rw [z5]; exact h
  | 6, _, _, h => rw [z6]; exact h
  | 7, _, _, h => rw [z7]; exact h
  | 8, _, _, h => rw [z8]; exact h
  | 9, _, _, h => rw [z9]; exact h
  | 10, _, _, h => rw [z10]; exact h
  | n + 11, hb, _, _ => exact absurd hb (Nat.not_lt.mpr (Nat.le_add_left 11 n))

theorem chains : chainsOk vw = true := by kernel_rfl
theorem opens : opening P = plainProg P.main.scope.names := by kernel_rfl
theorem fences (s : Shared) : fenceModules? P s = some s := by kernel_rfl

/-- behind the top -/
theorem behind (w : World) : (∃ s, AfterRun (opening P) w s) ∧ ∀ s, AfterRun (opening P) w s → ∃ s₀, fenceModules? P s = some s₀ ∧ s₀.gens = #[] ∧ ∃ s₁, TopRan P w s₀ s₁ ∧ s₁.asleep ∧ s₁.gens = #[] ∧ s₁.heap.isNs mainGlobals = true ∧
    Ground vw loose [] XPm w s₁ (s₁.heap.nsMap mainGlobals) (s₁.heap.nsMap builtinsNs) s₁.heap ∧ YPm w s₁.heap := by
  have h := boot_open (N := 600) opens (by decide) fences w
  rw [← table_eq_tree] at h
  obtain ⟨s₀, h1, hv⟩ := Option.map_eq_some_iff.mp h
  obtain ⟨s, h4, h5⟩ := Option.bind_eq_some_iff.mp h1
  have A := AfterImport.of_importEnds h4
  refine ⟨⟨s, A⟩, fun s' hs' => ?_⟩
  obtain rfl : s' = s := AfterImport.unique hs' A
  have z : s₀.asleep := Shared.asleep_of_life (fence_lifeW h5) A.life
  obtain ⟨heap, gens, drawn, toks, os⟩ := s₀
  simp only [Prod.mk.injEq] at hv
  obtain ⟨rfl, hg, rfl, rfl⟩ := hv
  have hg : gens = #[] := hg
  subst hg
  obtain ⟨f, hran, hY⟩ := top_ranF w os z
  have st := stats f w os
  simp only [Bool.and_eq_true] at st
  obtain ⟨⟨⟨st1, st2⟩, st3⟩, st4⟩ := st
  have hgs : (sF w.params f os).gens = #[] := by rw [sF_is]
  have hlf : (sF w.params f os).heap.life = (boot_heap w.params).life := by rw [sF_is, life0]; rfl
  have hos : (sF w.params f os).os = os := by rw [sF_is]
  obtain ⟨G, g0, g1, g2, g3, g4, g5⟩ := ground_of_open (w := w) (XP := XPm) (fun s e => xl_of s (Bool.and_eq_true_iff.mp e).1) chains (looks f w os)
  refine ⟨_, h5, rfl, sF w.params f os, ⟨hran, hlf, Shared.rest_eq hos, fun b o hb hn => old_at hb fun q => hn (.inl q), g2, statics_of_ok st1, g3, g4, g5, gens_of_done st3, names_of_bound st2, laid_of_kept st4⟩,
    Shared.asleep_of_life hlf z, hgs, g1, G, hY⟩
end Mine
end
theorem Mine.rs8 : True := by k_with_none; w_top off; trivial
section
open PySem PySem.W PyProof.Rows PySem.Calls
set_option maxRecDepth 100000
set_option maxHeartbeats 4000000
namespace Mine

abbrev row : OpenRow := PySem.Challenge.rw_wo0061_01.row
abbrev treeM (vs : List Value) : Sem PySem.Fin := do match ← nsGet mainNs row.name with
  | some f => do ret (← PySem.call f vs)
  | none => unsupported "claim.caller:no-such-global"

theorem holds_mine {d : DefRec} {kwd : List (Str × PySem.Expr)} (k1 : row.wellSaid = true) (hdef : defOf vw row.name = some (d, kwd)) (hp : row.prog.theDef row.name = some (d.params, d.body, d.scope)) (hk : kwWritten? d.params.kwonlyargs d.params.kw_defaults = some kwd)
    (ok : (opensWell row.prog && (frees row.toRowW && row.within.isEmpty)) = true) (hb : row.prog.bare) (hw : row.toRowW.promised)
    (call : WalkO vw loose XPm YPm row.toRowW d kwd fun f vs => PySem.call f vs) : row.Holds := by
  obtain ⟨o1, ok⟩ := Bool.and_eq_true_iff.mp ok
  obtain ⟨k5, k6⟩ := Bool.and_eq_true_iff.mp ok
  obtain ⟨hsame, hu, ha, hap, hm⟩ := frees_parts k5
  refine ⟨k1, hw, ⟨hb, o1, rfl⟩, hw.witness, fun w => ⟨(behind w).1, fun s' hs' => ?_⟩⟩
  obtain ⟨s₀, hf, hg0, s, hT, hz, hgens, hg, G, hY⟩ := (behind w).2 s' hs'
  refine ⟨s₀, hf, hg0, s, hT, fun n hn => ?_, (fun x hx => nomatch hx), (fun x hx => nomatch hx), ?_⟩
  · obtain rfl : n = row.name := by split at hn <;> simp_all
    exact pinned_of_view hg G hdef hp hk
  show ClaimW.CallFrom (fun vs => ⟨treeM vs, .builtin "claim.caller" {}, default, []⟩) row.toRowW.claim w _ _ _ s
  refine ClaimW.callFrom_of_specG (c := row.toRowW.claim) hz hgens fun args hpre hlay ord hord => ?_
  obtain ⟨⟨vs, s₁⟩, hlaid⟩ := Option.isSome_iff_exists.mp (layAllW_isSome (P := w.params) (ord := ord) G.has args row.toRowW.args s (pre_splitW hpre).1)
  have keeps := layAllW_keeps _ _ _ hlaid
  have hal := layAllW_rest _ _ _ hlaid
  obtain ⟨as, hrd, hin, hold⟩ := reads_layAllW hord _ _ _ hlaid hlay s₁.heap (fun _ _ e => e)
  have L : Laid row.toRowW.records w s s₁ args vs as := ⟨⟨ord, hord, hlaid⟩, hrd, hin, hold, keeps, hal.1.trans hgens, hal.2.2.1⟩
  have G₁ := G.keeps XL.keeps keeps
  obtain ⟨a, o, pm, cd, doc, dV, kV, h1, h2, h3, h4, h5⟩ := G₁.fn hdef
  have h := call w s s₁ _ _ G₁ (hY.keeps keeps) a o pm cd doc dV kV h2 h3 h4 h5 (defOf_name hdef ▸ h1) L.gens args vs as hpre hlay L.reads L.well (L.low G.low)
  have hi := ident_freeW hu ha hap
  have hwi : row.toRowW.claim.within = [] := List.isEmpty_iff.mp k6
  refine ⟨vs, s₁, hlaid, ?_⟩
  refine wpAny_bind (wpAny_nsGet G₁.T.g ?_)
  rw [h1]
  refine wpAny_bind (wpAny_mono h (fun v s' g => wpAny_pure ⟨_, rfl, ?_⟩) fun e s' g => ?_)
  · have z := g.laid (c := row.toRowW.claim) hsame hwi hi L
    exact ⟨z.1, z.2.1, z.2.2, fun q => nomatch q⟩
  · have z := g.laid (c := row.toRowW.claim) hsame hwi hi L
    exact ⟨z.1, z.2.1, z.2.2, fun q => nomatch q⟩
end Mine
end
theorem Mine.rs9 : True := by k_with_none; w_top off; trivial
section
open PySem PySem.W PyProof.Rows
namespace Mine

noncomputable def pushAll (h : Heap) (al : List Obj) : Heap := al.foldl (fun h o => h.push o) h
theorem pushAll_snoc (h : Heap) (al : List Obj) (o : Obj) : pushAll h (al ++ [o]) = (pushAll h al).push o := by simp [pushAll, List.foldl_append]
theorem pushAll_size (h : Heap) : ∀ al : List Obj, (pushAll h al).objs.size = h.objs.size + al.length := by
  intro al
  induction al generalizing h with
  | nil => rfl
  | cons o al ih => show (pushAll (h.push o) al).objs.size = _; rw [ih, Heap.size_push, List.length_cons]; omega
theorem pushAll_keep {h : Heap} {b : Addr} {o : Obj} (e : h.get? b = some o) : ∀ al : List Obj, (pushAll h al).get? b = some o := by
  intro al
  induction al generalizing h with
  | nil => exact e
  | cons x al ih => exact ih (Heap.get?_push_of_some x e)

/-- a state: how many tokens, what was made -/
structure Mk where
  toks : Nat
  made : List Obj
noncomputable def Mk.sh (s : Shared) (x : Mk) : Shared := { s with heap := pushAll s.heap x.made, toks := x.toks }

noncomputable def evAC (den : Code → Sem Fin) (f : Sem Fin → Mk → Option (Except Value Fin × Mk)) : Nat → Sem Fin → Mk → Option (Result × Mk)
  | 0, _, _ => none
  | n + 1, t, x => match f t x with
    | some (.ok (.done r), x') => some (.ok r, x')
    | some (.ok (.again c), x') => (match c.quiet with
      | true => evAC den f n (den c) x'
      | false => none)
    | some (.error e, x') => some (.error e, x')
    | none => none

/-- an evaluator that reads no heap: it may make objects and tokens -/
noncomputable def evA (den : Code → Sem Fin) (S : Setting) (sz : Nat) : Nat → {α : Type} → Sem α → Mk → Option (Except Value α × Mk)
  | 0, _, _, _ => none
  | n + 1, _, t, x => match t with
    | .pure a => some (.ok a, x)
    | .raise e => some (.error e, x)
    | .rule _ k => evA den S sz n (k ()) x
    | .at _ k => evA den S sz n (k ()) x
    | .point _ k => evA den S sz n (k ()) x
    | .alloc o k => evA den S sz n (k (sz + x.made.length)) ⟨x.toks, x.made ++ [o]⟩
    | .fresh k => evA den S sz n (k x.toks) ⟨x.toks + 1, x.made⟩
    | .ask k => evA den S sz n (k S) x
    | .call c none _ _ k => match evAC den (fun t x => evA den S sz n t x) n (den c) x with
      | some (r, x') => evA den S sz n (k r) x'
      | none => none
    | _ => none

noncomputable def SaysA {α : Type} (s : Shared) (Q : α → Shared → Prop) (E : Value → Shared → Prop) : Except Value α × Mk → Prop
  | (.ok a, x) => Q a (x.sh s)
  | (.error e, x) => E e (x.sh s)


theorem wpAny_callC {M : Model} {A : Around} {α : Type} {c : Code} {g : Bool} {l : List Value} {k : Result → Sem α} {Q : α → Shared → Prop} {E : Value → Shared → Prop} {s : Shared}
    (hc : codeAny M A c (fun r s' => wpAny M A (k r) Q E s') s) : wpAny M A (.call c none g l k) Q E s := fun Γ p hΓ => by
  rw [Sem.wp_call]
  have hb := hΓ.enter c none p (by intro x; cases x)
  rw [Around.mark_none] at hb
  exact wpCode_mono (fun r s' h => h Γ p hΓ) (hc (Γ.enter c none p) p rfl hb)

theorem evAC_sound {M : Model} {s : Shared} {f : Sem Fin → Mk → Option (Except Value Fin × Mk)}
    (hf : ∀ (A : Around) t x r, f t x = some r → ∀ (Q : Fin → Shared → Prop) (E : Value → Shared → Prop), SaysA s Q E r → wpAny M A t Q E (x.sh s)) :
    ∀ (n : Nat) (A : Around) (c : Code) (x : Mk) (r : Result) (x' : Mk), evAC M.den f n (M.den c) x = some (r, x') →
      ∀ R : Result → Shared → Prop, R r (x'.sh s) → codeAny M A c R (x.sh s)
  | 0, _, _, _, _, _, h => by cases h
  | n + 1, A, c, x, r, x', h => by
    intro R hR
    unfold evAC at h
    cases e : f (M.den c) x with
    | none => rw [e] at h; cases h
    | some q =>
      obtain ⟨v, y⟩ := q
      rw [e] at h
      refine codeAny_of_tree (hf _ _ _ _ e _ _ ?_)
      cases v with
      | error e' => cases h; exact hR
      | ok fin =>
        cases fin with
        | done g => cases h; exact hR
        | again c' =>
          dsimp only at h
          cases hq : c'.quiet with
          | false => rw [hq] at h; cases h
          | true =>
            rw [hq] at h
            exact ⟨hq, evAC_sound hf n A c' y r x' h R hR⟩

theorem evA_sound {M : Model} {s : Shared} : ∀ (n : Nat) {α : Type} (A : Around) (t : Sem α) (x : Mk) (r : Except Value α × Mk),
    evA M.den ⟨M.prog, M.w.params⟩ s.heap.objs.size n t x = some r → ∀ (Q : α → Shared → Prop) (E : Value → Shared → Prop), SaysA s Q E r → wpAny M A t Q E (x.sh s)
  | 0, _, _, _, _, _, h => by cases h
  | n + 1, α, A, t, x, r, h => by
    intro Q E hs
    unfold evA at h
    cases t with
    | pure a => cases h; exact wpAny_pure hs
    | raise e => cases h; exact fun _ _ _ => hs
    | rule tag k => exact fun Γ p hΓ => evA_sound n A _ x r h Q E hs Γ p hΓ
    | «at» p' k => exact fun Γ p hΓ => evA_sound n A _ x r h Q E hs Γ p' hΓ
    | point l k => exact fun Γ p hΓ => evA_sound n A _ x r h Q E hs Γ p hΓ
    | alloc o k =>
      intro Γ p hΓ
      have := evA_sound n A _ ⟨x.toks, x.made ++ [o]⟩ r h Q E hs Γ p hΓ
      have e : (Mk.sh s ⟨x.toks, x.made ++ [o]⟩) = { x.sh s with heap := (x.sh s).heap.push o } := by
        show Shared.mk _ _ _ _ _ = Shared.mk _ _ _ _ _
        rw [pushAll_snoc]; rfl
      rw [e] at this
      rw [Sem.wp_alloc, show (x.sh s).heap.objs.size = s.heap.objs.size + x.made.length from pushAll_size _ _]
      exact this
    | fresh k => exact fun Γ p hΓ => evA_sound n A _ ⟨x.toks + 1, x.made⟩ r h Q E hs Γ p hΓ
    | ask k => exact fun Γ p hΓ => evA_sound n A _ x r h Q E hs Γ p hΓ
    | call c hd g l k =>
      cases hd with
      | some _ => cases h
      | none =>
        dsimp only at h
        cases e : evAC M.den (fun t x => evA M.den ⟨M.prog, M.w.params⟩ s.heap.objs.size n t x) n (M.den c) x with
        | none => rw [e] at h; cases h
        | some q =>
          obtain ⟨v, y⟩ := q
          rw [e] at h
          exact wpAny_callC (evAC_sound (fun A t x r hr => evA_sound n A t x r hr) n A c x v y e _ (evA_sound n A _ y r h Q E hs))
    | _ => cases h
end Mine
end
theorem Mine.rs10 : True := by k_with_none; w_top off; trivial
section
open PySem PySem.W PyProof.Rows PySem.Calls PyProof.V PySem.Spec
set_option maxRecDepth 100000
set_option maxHeartbeats 8000000
namespace Mine
noncomputable section
abbrev dnA : Code → Sem PySem.Fin := PySem.W.Fast.tw11892475500146522536 PySem.W.Fast.tw14364793385576792824
theorem dnA_eq : denote table = dnA := by
  rw [table_eq_tree, PySem.W.Fast.te11892475500146522536, PySem.W.Fast.te14364793385576792824]
noncomputable def okOf {α : Type} : Option (Except Value α × Mk) → Option α
  | some (.ok v, _) => some v
  | _ => none
theorem fr_pushAll {h₀ h : Heap} {L : Addr} {m : Str → Option Value} (F : Fr h₀ L h m) : ∀ al : List Obj, Fr h₀ L (pushAll h al) m := by
  intro al
  induction al generalizing h with
  | nil => exact F
  | cons o al ih => exact ih (F.push o)
theorem news_pushAll {h₀ h : Heap} {L : Addr} {news : List (Addr × Obj)} (N : News h₀ L h news) (al : List Obj) : News h₀ L (pushAll h al) news :=
  fun p hp => ⟨pushAll_keep (N p hp).1 al, (N p hp).2⟩
/-- a piece that reads no heap, by the evaluator: what it makes is forgotten -/
theorem by_evA {w : World} {A : Around} {α : Type} {t : Sem α} {v : α} {n : Nat} {s : Shared} {Q : α → Shared → Prop} {E : Value → Shared → Prop} {h₀ : Heap} {L : Addr} {m : Str → Option Value} {news : List (Addr × Obj)}
    (F : Fr h₀ L s.heap m) (N : News h₀ L s.heap news) (e : okOf (evA dnA ⟨P, w.params⟩ s.heap.objs.size n t ⟨s.toks, []⟩) = some v)
    (h : ∀ h' tk', Fr h₀ L h' m → News h₀ L h' news → Q v { s with heap := h', toks := tk' }) : wpAny (model P w) A t Q E s := by
  have hd : (model P w).den = dnA := dnA_eq
  cases q : evA dnA ⟨P, w.params⟩ s.heap.objs.size n t ⟨s.toks, []⟩ with
  | none => rw [q] at e; cases e
  | some r =>
    obtain ⟨r, y⟩ := r
    rw [q] at e
    cases r with
    | error _ => cases e
    | ok v' =>
      have e : v' = v := Option.some.inj e
      subst e
      have := evA_sound (M := model P w) (s := s) n A t ⟨s.toks, []⟩ (.ok v', y) (by rw [hd]; exact q) Q E (h _ _ (fr_pushAll F y.made) (news_pushAll N y.made))
      exact this
theorem hasattr_str {w : World} {A : Around} {s : Shared} {Q : Value → Shared → Prop} {E : Value → Shared → Prop} {h₀ : Heap} {L : Addr} {m : Str → Option Value} {news : List (Addr × Obj)} {x : Str} {t u : Tok}
    (F : Fr h₀ L s.heap m) (N : News h₀ L s.heap news)
    (h : ∀ h' tk', Fr h₀ L h' m → News h₀ L h' news → Q (.bool true) { s with heap := h', toks := tk' }) :
    wpAny (model P w) A (call (.builtin "hasattr") [.str x t, .str (Str.ofString "__getitem__") u]) Q E s :=
  by_evA (n := 300) F N (by kernel_rfl) h
end
theorem fill : (fun (_ : OpenLaw) (_ : Params → Frag) => True) PySem.Challenge.rw_wo0061_01 KK := by
  k_fill
  trivial

noncomputable section
noncomputable def b1P : List (Int × Nat) := [(65024, 273), (65025, 274), (65026, 275), (65027, 276), (65028, 277), (65029, 278), (6150, 259), (65030, 279), (65031, 280), (65032, 281), (65033, 282), (6155, 260), (6156, 261), (6157, 262), (8203, 263), (8204, 264), (8205, 265), (65034, 283), (65035, 284), (65036, 285), (65037, 286), (65038, 287), (65039, 288), (173, 257), (847, 258), (8288, 266), (65279, 267)]
noncomputable def inB1 (i : Int) : Bool := b1P.any fun p => p.1 == i
noncomputable def b1Obj (Q : Params) : Obj := ⟨.type "set", none, .set (b1P.map fun p => (p.1, Value.int p.1 p.2)).toArray 29 ⟨127, #[0, 1, 2, 3, 4, 5, 6, 7, 8, 9, 10, 11, 12, 13, 14, 15, 16, 17, 18, 19, 20, 21, 22, 45, 79, 96, 127], #[], 0, !Q.followText "set-order", 2, true⟩, #[]⟩
theorem b1_at (Q : Params) : (KK Q).lookup 64 = some (b1Obj Q) := by kernel_rfl
theorem b1_hash : ∀ p ∈ b1P, hashInt p.1 = p.1 := by decide +kernel
theorem b1_setOf {w : World} {h : Heap} (X : (KK w.params).In h) : h.SetOf (kI P w) 64 inB1 27 := by
  refine ⟨b1Obj w.params, _, _, _, X 64 _ (b1_at _), ⟨rfl, rfl, rfl⟩, rfl, ?_, ?_, by decide, ?_, rfl⟩
  · intro e he
    rw [List.toList_toArray] at he
    obtain ⟨p, hp, rfl⟩ := List.mem_map.mp he
    exact ⟨⟨p.1, by simp [intKind, Value.isInt], (b1_hash p hp).symm⟩, rfl⟩
  · intro k
    rw [List.toList_toArray]
    unfold inB1
    rw [List.any_eq_true]
    constructor
    · rintro ⟨p, hp, e⟩
      exact ⟨_, List.mem_map.mpr ⟨p, hp, rfl⟩, by have := beq_iff_eq.mp e; subst this; simp [intKind, Value.isInt]⟩
    · rintro ⟨e, he, hk⟩
      obtain ⟨p, hp, rfl⟩ := List.mem_map.mp he
      refine ⟨p, hp, ?_⟩
      have : p.1 = k := by simpa [intKind, Value.isInt] using hk
      rw [this]; exact beq_self_eq_true k
  · kernel_rfl
end
theorem in_b1s {w : World} {A : Around} {s : Shared} {Q : Value → Shared → Prop} {E : Value → Shared → Prop} {h₀ : Heap} {L : Addr} {m : Str → Option Value} {i : Int} {t : Tok}
    (F : Fr h₀ L s.heap m) (X : (KK w.params).In h₀) (h : Q (.bool (inB1 i)) { s with toks := s.toks + 1 }) : wpAny (model P w) A (compareOp .In (.int i t) (.ref 64)) Q E s :=
  wpAny_inSet_of (knd := kI P w) (by simp [intKind, Value.isInt]) rfl (b1_setOf (X.keeps F.keep)) h
/-- the table of the foldings, as data -/
noncomputable def b3D : List (PyData × PyData) := rows14.map fun r => (PyData.int r.i, PyData.str r.x)
noncomputable def b3f (i : Int) : Option Str := (rows14.find? fun r => r.i == i).map (·.x)
theorem look_rows (i : Int) : ∀ rows : List Row, PySem.Spec.lookup (PyData.int i) (rows.map fun r => (PyData.int r.i, PyData.str r.x)) = ((rows.find? fun r => r.i == i).map (·.x)).map PyData.str
  | [] => rfl
  | r :: rows => by
    rw [List.map_cons, List.find?_cons]
    unfold PySem.Spec.lookup
    rw [same_int]
    by_cases e : r.i = i
    · simp [e]
    · have h2 : (r.i == i) = false := beq_eq_false_iff_ne.mpr e
      rw [if_neg (by rw [decide_eq_false e]; exact Bool.false_ne_true), h2]
      exact look_rows i rows
theorem b3_look (i : Int) : PySem.Spec.lookup (PyData.int i) b3D = (b3f i).map PyData.str := look_rows i rows14
theorem flat_rows : ∀ (rows : List Row) (kvs : List (Int × Value)), RowsAre rows kvs → FlatPairs PyData.int kvs (rows.map fun r => (PyData.int r.i, PyData.str r.x))
  | [], [], _ => .nil
  | [], _ :: _, h => by cases h
  | _ :: _, [], h => by cases h
  | r :: rows, (i, v) :: kvs, h => by
    unfold RowsAre at h
    rw [List.map_cons, List.map_cons] at h
    injection h with h1 h2
    injection h1 with h3 h4
    dsimp only at h3 h4
    subst h3
    have hv : ∃ t, v = .str r.x t := by
      cases v with
      | str x t =>
        have : x = r.x := Option.some.inj h4
        exact ⟨t, by rw [this]⟩
      | _ => cases h4
    obtain ⟨t, rfl⟩ := hv
    exact .cons (Flat.str _ _) (flat_rows rows kvs h2)
theorem tab_of {w : World} {h : Heap} (y : ∃ kvs, RowsAre rows14 kvs ∧ h.DictOf (kI P w) 75 kvs) : IntTab P w h 75 b3D :=
  let ⟨kvs, hr, hD⟩ := y
  ⟨by decide, kvs, hD, flat_rows rows14 kvs hr⟩
theorem getMethod_b3 {w : World} {A : Around} {s : Shared} {E : Value → Shared → Prop} {h₀ : Heap} {L : Addr} {m : Str → Option Value} {pl : Sem Bool} {Q : Value × List Value → Shared → Prop}
    (F : Fr h₀ L s.heap m) (T : IntTab P w h₀ 75 b3D) (h : Q (.builtin "dict.get", [.ref 75]) s) : wpAny (model P w) A (getMethod (.ref 75) (Str.ofString "get") pl) Q E s :=
  getMethod_intTab_get (T.keep F.keep) h
theorem get_b3 {w : World} {A : Around} {s : Shared} {Q : Value → Shared → Prop} {E : Value → Shared → Prop} {h₀ : Heap} {L : Addr} {m : Str → Option Value} {i : Int} {t : Tok}
    (F : Fr h₀ L s.heap m) (T : IntTab P w h₀ 75 b3D) (h1 : ∀ x u, b3f i = some x → Q (.str x u) { s with toks := s.toks + 1 }) (h2 : b3f i = none → Q .none { s with toks := s.toks + 1 }) :
    wpAny (model P w) A (call (.builtin "dict.get") [.ref 75, .int i t]) Q E s := by
  refine call_get1_intTab (T.keep F.keep) fun v hv => ?_
  rw [b3_look] at hv
  cases e : b3f i with
  | none =>
    rw [e] at hv
    rw [Flat.none_inv hv]
    exact h2 e
  | some x =>
    rw [e] at hv
    obtain ⟨u, hu⟩ := Flat.str_inv hv
    rw [hu]
    exact h1 _ _ e
end Mine
end
theorem Mine.rs11 : True := by k_with_none; w_top off; trivial
section
open PySem PySem.W PyProof.Rows PySem.Calls PyProof.V PySem.Spec
set_option maxRecDepth 100000
set_option maxHeartbeats 8000000
namespace Mine
theorem fillCtA : (fun (_ : OpenLaw) (_ : Params → Frag) => True) PySem.Challenge.rw_wo0061_01 KK := by
  k_fill
  trivial

noncomputable def cmpS (x y : Str) : Int := b2i (decide (y.cps.toList < x.cps.toList)) - b2i (decide (x.cps.toList < y.cps.toList))

theorem strcoll_ct {w : World} {mean : ExcName → Option Value} {mg mb : Str → Option Value} {ls : List Str} {news : List (Addr × Obj)} {dp un : Nat} {gd : Option (List Code)} {cn : Str} {cs : Scope} {a : Addr} {ccd : Value} {cl : List (Str × Addr)} {outer : List Env} {A₀ : Around} {base h₀ : Heap} {L : Addr} {m : Str → Option Value} {s : Shared} {Q E : Value → Shared → Prop} {x y : Str} {tx ty : Tok}
    (k1 : Below A₀ base outer h₀) (k2 : Fr h₀ L s.heap m) (k3 : (KK w.params).In h₀) (k4 : News h₀ L s.heap news) (k5 : Top vw ls mean mg mb h₀) (kK : cs.kind = .function) (kd : dp + 4 < recursionLimit) (ku : un + 40 < cLine)
    
    (ret : ∀ (t : Tok) (h' : Heap) (tk' : Nat), Fr h₀ L h' m → News h₀ L h' news → Q (.int (cmpS x y) t) { s with heap := h', toks := tk' }) :
    wpAny (model P w) (ktrTop dp un gd cn cs L a ccd cl outer) (call (.ref 28) [.str x tx, .str y ty]) Q E s := by
  refine wpAny_call ?_
  k_dflt cell_enter
  k_steps
  exact ret _ _ _ (by assumption) (by first | assumption | exact cb_drop (by assumption) (fun p hp => by first | exact List.mem_cons_of_mem _ hp | simp [hp]))


theorem concat_ct {w : World} {mean : ExcName → Option Value} {mg mb : Str → Option Value} {ls : List Str} {news : List (Addr × Obj)} {dp un : Nat} {gd : Option (List Code)} {cn : Str} {cs : Scope} {a : Addr} {ccd : Value} {cl : List (Str × Addr)} {outer : List Env} {A₀ : Around} {base h₀ : Heap} {L : Addr} {m : Str → Option Value} {s : Shared} {Q E : Value → Shared → Prop} {x y : Str} {tx ty : Tok}
    (k1 : Below A₀ base outer h₀) (k2 : Fr h₀ L s.heap m) (k3 : (KK w.params).In h₀) (k4 : News h₀ L s.heap news) (k5 : Top vw ls mean mg mb h₀) (kK : cs.kind = .function) (kd : dp + 4 < recursionLimit) (ku : un + 40 < cLine)
    (hlen : x.length + y.length ≤ 10000)
    (ret : ∀ (t : Tok) (h' : Heap) (tk' : Nat), Fr h₀ L h' m → News h₀ L h' news → Q (.str (x ++ y) t) { s with heap := h', toks := tk' }) :
    wpAny (model P w) (ktrTop dp un gd cn cs L a ccd cl outer) (call (.ref 42) [.str x tx, .str y ty]) Q E s := by
  k_with_none
  (k_with "call builtin:hasattr" => (k_here; k_dflt (refine' hasattr_str ?F ?N ?_; (case F => k_asm); (case N => k_asm); k_whole); intro h'zz tk'zz F'zz N'zz; (try k_sweep)))
  refine wpAny_call ?_
  k_dflt cell_enter
  k_steps
  exact ret _ _ _ (by assumption) (by first | assumption | exact cb_drop (by assumption) (fun p hp => by first | exact List.mem_cons_of_mem _ hp | simp [hp]))


theorem in_b1_ct {w : World} {mean : ExcName → Option Value} {mg mb : Str → Option Value} {ls : List Str} {news : List (Addr × Obj)} {dp un : Nat} {gd : Option (List Code)} {cn : Str} {cs : Scope} {a : Addr} {ccd : Value} {cl : List (Str × Addr)} {outer : List Env} {A₀ : Around} {base h₀ : Heap} {L : Addr} {m : Str → Option Value} {s : Shared} {Q E : Value → Shared → Prop} {x : Str} {tx : Tok}
    (k1 : Below A₀ base outer h₀) (k2 : Fr h₀ L s.heap m) (k3 : (KK w.params).In h₀) (k4 : News h₀ L s.heap news) (k5 : Top vw ls mean mg mb h₀) (kK : cs.kind = .function) (kd : dp + 4 < recursionLimit) (ku : un + 40 < cLine)
    (hx : x.length = 1)
    (ret : ∀ (t : Tok) (h' : Heap) (tk' : Nat), Fr h₀ L h' m → News h₀ L h' news → Q (.bool (inB1 (x.cps.getD 0 0 : Nat))) { s with heap := h', toks := tk' }) :
    wpAny (model P w) (ktrTop dp un gd cn cs L a ccd cl outer) (call (.ref 74) [.str x tx]) Q E s := by
  k_with_none
  (k_with "call builtin:hasattr" => (k_here; k_dflt (refine' hasattr_str ?F ?N ?_; (case F => k_asm); (case N => k_asm); k_whole); intro h'zz tk'zz F'zz N'zz; (try k_sweep)))
  (k_with "compareOp In int ref" => (k_here; k_dflt (refine' in_b1s ?F ?X ?_; (case F => k_asm); (case X => k_asm); k_whole)))
  refine wpAny_call ?_
  k_dflt cell_enter
  k_steps
  exact ret 0 _ _ (by assumption) (by first | assumption | exact cb_drop (by assumption) (fun p hp => by first | exact List.mem_cons_of_mem _ hp | simp [hp]))


noncomputable def b3 (x : Str) : Str := match b3f (x.cps.getD 0 0 : Nat) with
  | some y => y
  | none => Txt.lower x
theorem b3_of_some {x y : Str} (h : b3f (x.cps.getD 0 0 : Nat) = some y) : b3 x = y := by unfold b3; rw [h]
theorem b3_of_none {x : Str} (h : b3f (x.cps.getD 0 0 : Nat) = none) : b3 x = Txt.lower x := by unfold b3; rw [h]

theorem map_b3_ct {w : World} {mean : ExcName → Option Value} {mg mb : Str → Option Value} {ls : List Str} {news : List (Addr × Obj)} {dp un : Nat} {gd : Option (List Code)} {cn : Str} {cs : Scope} {a : Addr} {ccd : Value} {cl : List (Str × Addr)} {outer : List Env} {A₀ : Around} {base h₀ : Heap} {L : Addr} {m : Str → Option Value} {s : Shared} {Q E : Value → Shared → Prop} {x : Str} {tx : Tok}
    (k1 : Below A₀ base outer h₀) (k2 : Fr h₀ L s.heap m) (k3 : (KK w.params).In h₀) (k4 : News h₀ L s.heap news) (k5 : Top vw ls mean mg mb h₀) (kK : cs.kind = .function) (kd : dp + 4 < recursionLimit) (ku : un + 40 < cLine)
    (hx : x.length = 1) (kT : IntTab P w h₀ 75 b3D)
    (ret : ∀ (t : Tok) (h' : Heap) (tk' : Nat), Fr h₀ L h' m → News h₀ L h' news → Q (.str (b3 x) t) { s with heap := h', toks := tk' }) :
    wpAny (model P w) (ktrTop dp un gd cn cs L a ccd cl outer) (call (.ref 120) [.str x tx]) Q E s := by
  k_with_none
  (k_with "call builtin:hasattr" => (k_here; k_dflt (refine' hasattr_str ?F ?N ?_; (case F => k_asm); (case N => k_asm); k_whole); intro h'zz tk'zz F'zz N'zz; (try k_sweep)))
  (k_with "compareOp In int ref" => (k_here; k_dflt (refine' in_b1s ?F ?X ?_; (case F => k_asm); (case X => k_asm); k_whole)))
  (k_with "getMethod ref" => (k_here; k_dflt (refine' getMethod_b3 ?F ?T ?_; (case F => k_asm); (case T => assumption); k_whole)))
  (k_with "call builtin:dict.get" => (k_here; k_dflt (refine' get_b3 ?F ?T ?_ ?_; (case F => k_asm); (case T => assumption); k_whole); (first | intro x'zz u'zz hx'zz | intro hx'zz)))
  refine wpAny_call ?_
  k_dflt cell_enter
  (rename Fr h₀ L _ m => FG)
  have kT' := kT.keep FG.keep
  k_steps
  · have e := b3_of_some (x := x) (by assumption)
    rw [e] at ret
    exact ret _ _ _ (by assumption) (by assumption)
  · have e := b3_of_none (x := x) (by assumption)
    rw [e] at ret
    exact ret _ _ _ (by assumption) (by assumption)


end Mine
end
theorem Mine.rs12 : True := by k_with_none; w_top off; trivial
section
open PySem PySem.W PyProof.Rows PySem.Calls PyProof.V PySem.Spec
set_option maxRecDepth 100000
set_option maxHeartbeats 8000000
namespace Mine
theorem fillCtB : (fun (_ : OpenLaw) (_ : Params → Frag) => True) PySem.Challenge.rw_wo0061_01 KK := by
  k_fill
  trivial

/-- a text of signs that the table B.1 holds -/
noncomputable def Unseen (y : Str) : Prop := y.length ≤ 1 ∧ ∀ c ∈ y.cps.toList, inB1 (c : Int) = true
theorem menuA_all : ∀ k : Nat, k < 11 → 0 ≤ ([173, 847, 6150, 6155, 6156, 6157, 8203, 8204, 8205, 8288, 65279] : List Int).getD k 0 ∧ ([173, 847, 6150, 6155, 6156, 6157, 8203, 8204, 8205, 8288, 65279] : List Int).getD k 0 ≤ 1114111 := by decide +kernel
theorem menuA (k : Nat) : 0 ≤ ([173, 847, 6150, 6155, 6156, 6157, 8203, 8204, 8205, 8288, 65279] : List Int).getD k 0 ∧ ([173, 847, 6150, 6155, 6156, 6157, 8203, 8204, 8205, 8288, 65279] : List Int).getD k 0 ≤ 1114111 := by
  by_cases h : k < 11
  · exact menuA_all k h
  · rw [List.getD_eq_getElem?_getD, List.getElem?_eq_none (Nat.le_of_not_lt h)]; decide
noncomputable def uns (y : Str) : Bool := decide (y.length ≤ 1) && y.cps.toList.all fun c => inB1 (c : Int)
theorem uns_says {y : Str} (h : uns y = true) : Unseen y := by
  obtain ⟨a, b⟩ := Bool.and_eq_true_iff.mp h
  exact ⟨of_decide_eq_true a, List.all_eq_true.mp b⟩
theorem menuA_uns : ∀ k : Nat, k < 11 → uns ⟨#[(([173, 847, 6150, 6155, 6156, 6157, 8203, 8204, 8205, 8288, 65279] : List Int).getD k 0).toNat]⟩ = true := by decide +kernel
theorem plane_uns : ∀ k : Nat, k < 16 → uns ⟨#[65024 + k]⟩ = true := by decide +kernel
theorem menuA_b1 (i : Int) (h0 : 0 ≤ i) (h1 : i ≤ 10) : Unseen ⟨#[(([173, 847, 6150, 6155, 6156, 6157, 8203, 8204, 8205, 8288, 65279] : List Int).getD i.toNat 0).toNat]⟩ := uns_says (menuA_uns _ (by omega))
theorem plane_b1 (i : Int) (h0 : 10 < i) (h1 : i ≤ 26) : Unseen ⟨#[(65013 + i).toNat]⟩ := by
  have e : (65013 + i).toNat = 65024 + (i - 11).toNat := by omega
  rw [e]; exact uns_says (plane_uns _ (by omega))
theorem none_b1 : Unseen (Str.ofString "") := ⟨by decide +kernel, by decide +kernel⟩

theorem unseen_ct {w : World} {mean : ExcName → Option Value} {mg mb : Str → Option Value} {ls : List Str} {news : List (Addr × Obj)} {dp un : Nat} {gd : Option (List Code)} {cn : Str} {cs : Scope} {a : Addr} {ccd : Value} {cl : List (Str × Addr)} {outer : List Env} {A₀ : Around} {base h₀ : Heap} {L : Addr} {m : Str → Option Value} {s : Shared} {Q E : Value → Shared → Prop} {i : Int} {ti : Tok}
    (k1 : Below A₀ base outer h₀) (k2 : Fr h₀ L s.heap m) (k3 : (KK w.params).In h₀) (k4 : News h₀ L s.heap news) (k5 : Top vw ls mean mg mb h₀) (kK : cs.kind = .function) (kd : dp + 4 < recursionLimit) (ku : un + 40 < cLine)
    (hi0 : 0 ≤ i) (hi1 : i < 30)
    (ret : ∀ (y : Str) (t : Tok) (h' : Heap) (tk' : Nat), Unseen y → Fr h₀ L h' m → News h₀ L h' news → Q (.str y t) { s with heap := h', toks := tk' }) :
    wpAny (model P w) (ktrTop dp un gd cn cs L a ccd cl outer) (call (.ref 146) [.int i ti]) Q E s := by
  k_with_none
  (k_with "call builtin:chr" => (k_here; k_dflt (refine' chr_of_range ?a ?b ?_; (case a => first | exact (menuA _).1 | omega); (case b => first | exact (menuA _).2 | omega); k_whole)))
  refine wpAny_call ?_
  k_dflt cell_enter
  k_steps
  all_goals (refine ret _ _ _ _ ?_ (by assumption) (by first | assumption | exact cb_drop (by assumption) (fun p hp => by first | exact List.mem_cons_of_mem _ hp | simp [hp])))
  all_goals (simp only [decide_eq_true_eq, decide_eq_false_iff_not] at *)
  all_goals (first | exact none_b1 | exact plane_b1 i (by omega) (by omega) | exact menuA_b1 i (by omega) (by omega))


end Mine
end
theorem Mine.rs13 : True := by k_with_none; w_top off; trivial
section
open PySem PySem.W PyProof.Rows PySem.Calls PyProof.V PySem.Spec
set_option maxRecDepth 100000
set_option maxHeartbeats 8000000
namespace Mine
theorem fillCtC : (fun (_ : OpenLaw) (_ : Params → Frag) => True) PySem.Challenge.rw_wo0061_01 KK := by
  k_fill
  trivial

theorem menuB_all : ∀ k : Nat, k < 10 → 0 ≤ ([0, 1, 2, 4, 7, 8, 9, 10, 11, 12] : List Int).getD k 0 ∧ ([0, 1, 2, 4, 7, 8, 9, 10, 11, 12] : List Int).getD k 0 ≤ 12 := by decide +kernel
theorem menuB (k : Nat) {c : Nat} (hc : c ≤ 122) : 0 ≤ 119711 + 52 * ([0, 1, 2, 4, 7, 8, 9, 10, 11, 12] : List Int).getD k 0 + (c : Int) ∧ 119711 + 52 * ([0, 1, 2, 4, 7, 8, 9, 10, 11, 12] : List Int).getD k 0 + (c : Int) ≤ 1114111 := by
  have h : 0 ≤ ([0, 1, 2, 4, 7, 8, 9, 10, 11, 12] : List Int).getD k 0 ∧ ([0, 1, 2, 4, 7, 8, 9, 10, 11, 12] : List Int).getD k 0 ≤ 12 := by
    by_cases h : k < 10
    · exact menuB_all k h
    · rw [List.getD_eq_getElem?_getD, List.getElem?_eq_none (Nat.le_of_not_lt h)]; decide
  generalize ([0, 1, 2, 4, 7, 8, 9, 10, 11, 12] : List Int).getD k 0 = z at h ⊢
  omega
/-- how a letter may be typed -/
noncomputable def Typed (x y : Str) : Prop := y = x ∨ y = ⟨#[((x.cps.getD 0 0 : Int) - 32).toNat]⟩ ∨ ∃ k : Nat, k < 10 ∧ y = ⟨#[(119711 + 52 * ([0, 1, 2, 4, 7, 8, 9, 10, 11, 12] : List Int).getD k 0 + (x.cps.getD 0 0 : Int)).toNat]⟩

theorem letter_ct {w : World} {mean : ExcName → Option Value} {mg mb : Str → Option Value} {ls : List Str} {news : List (Addr × Obj)} {dp un : Nat} {gd : Option (List Code)} {cn : Str} {cs : Scope} {a : Addr} {ccd : Value} {cl : List (Str × Addr)} {outer : List Env} {A₀ : Around} {base h₀ : Heap} {L : Addr} {m : Str → Option Value} {s : Shared} {Q E : Value → Shared → Prop} {x : Str} {tx ti : Tok} {i : Int}
    (k1 : Below A₀ base outer h₀) (k2 : Fr h₀ L s.heap m) (k3 : (KK w.params).In h₀) (k4 : News h₀ L s.heap news) (k5 : Top vw ls mean mg mb h₀) (kK : cs.kind = .function) (kd : dp + 4 < recursionLimit) (ku : un + 40 < cLine)
    (hx : x.length = 1) (hlo : 97 ≤ x.cps.getD 0 0) (hhi : x.cps.getD 0 0 ≤ 122) (hi0 : 0 ≤ i) (hi1 : i < 16)
    (ret : ∀ (y : Str) (t : Tok) (h' : Heap) (tk' : Nat), Typed x y → Fr h₀ L h' m → News h₀ L h' news → Q (.str y t) { s with heap := h', toks := tk' }) :
    wpAny (model P w) (ktrTop dp un gd cn cs L a ccd cl outer) (call (.ref 139) [.str x tx, .int i ti]) Q E s := by
  k_with_none
  (k_with "call builtin:chr" => (k_here; k_dflt (refine' chr_of_range ?a ?b ?_; (case a => first | exact (menuB _ (by assumption)).1 | omega); (case b => first | exact (menuB _ (by assumption)).2 | omega); k_whole)))
  refine wpAny_call ?_
  k_dflt cell_enter
  k_steps
  all_goals (refine ret _ _ _ _ ?_ (by assumption) (by first | assumption | exact cb_drop (by assumption) (fun p hp => by first | exact List.mem_cons_of_mem _ hp | simp [hp])))
  all_goals (simp only [decide_eq_true_eq, decide_eq_false_iff_not] at *)
  all_goals (first | exact Or.inl rfl | exact Or.inr (Or.inl rfl) | exact Or.inr (Or.inr ⟨_, by omega, rfl⟩))


end Mine
end
theorem Mine.rs14 : True := by k_with_none; w_top off; trivial
section
open PySem PySem.W PyProof.Rows PySem.Calls PyProof.V PySem.Spec
set_option maxRecDepth 100000
set_option maxHeartbeats 8000000
namespace Mine
theorem fillCtR : (fun (_ : OpenLaw) (_ : Params → Frag) => True) PySem.Challenge.rw_wo0061_01 KK := by
  k_fill
  trivial

noncomputable def rd (pre : List Int) : Str := pre.foldl (fun (w : Str) (c : Int) => if inB1 c then w else w ++ b3 ⟨#[c.toNat]⟩) (Str.ofString "")
theorem rd_snoc (pre : List Int) (c : Int) : rd (pre ++ [c]) = if inB1 c then rd pre else rd pre ++ b3 ⟨#[c.toNat]⟩ := by unfold rd; rw [List.foldl_append]; rfl
noncomputable def RdP (pre : List Int) (w : Str) : Prop := w = rd pre ∧ w.length ≤ 10 * pre.length
theorem rd_start : RdP [] (Str.ofString "") := ⟨rfl, by decide +kernel⟩
theorem rd_skip {w : Str} {pre : List Int} {n : Nat} (h : RdP pre w) (b : inB1 ((#[n].getD 0 0 : Nat) : Int) = true) : RdP (pre ++ [(n : Int)]) w := by
  have b : inB1 (n : Int) = true := b
  refine ⟨by rw [rd_snoc, if_pos b]; exact h.1, ?_⟩
  have := h.2
  rw [List.length_append]; omega
theorem rd_more {w : Str} {pre : List Int} {n : Nat} (h : RdP pre w) (b : inB1 ((#[n].getD 0 0 : Nat) : Int) = false) (l : (b3 ⟨#[n]⟩).length ≤ 10) : RdP (pre ++ [(n : Int)]) (w ++ b3 ⟨#[n]⟩) := by
  have b : inB1 (n : Int) = false := b
  refine ⟨by rw [rd_snoc, if_neg (by rw [b]; exact Bool.false_ne_true), ← h.1]; rfl, ?_⟩
  have := h.2
  rw [List.length_append, Str.length_append, List.length_singleton]; omega
theorem b3_le {x : Str} {pre post : List Int} {n : Nat} (hb : ∀ c ∈ x.cps.toList, (b3 ⟨#[c]⟩).length ≤ 10) (e : KStt.codes x = pre ++ (n : Int) :: post) : (b3 ⟨#[n]⟩).length ≤ 10 := by
  have hm : (n : Int) ∈ KStt.codes x := by rw [e]; simp
  unfold KStt.codes at hm
  obtain ⟨c, hc, e⟩ := List.mem_map.mp hm
  have : c = n := by omega
  subst this
  exact hb c hc
theorem rd_len {x w : Str} {pre post : List Int} {n : Nat} (hx : x.length ≤ 100) (hb : ∀ c ∈ x.cps.toList, (b3 ⟨#[c]⟩).length ≤ 10) (e : KStt.codes x = pre ++ (n : Int) :: post) (kL : x.length = pre.length + (post.length + 1)) (h : RdP pre w) :
    w.length + (b3 ⟨#[n]⟩).length ≤ 10000 := by
  have h1 := b3_le hb e
  have h2 := h.2
  omega

theorem read_ct {w : World} {mean : ExcName → Option Value} {mg mb : Str → Option Value} {ls : List Str} {news : List (Addr × Obj)} {dp un : Nat} {gd : Option (List Code)} {cn : Str} {cs : Scope} {a : Addr} {ccd : Value} {cl : List (Str × Addr)} {outer : List Env} {A₀ : Around} {base h₀ : Heap} {L : Addr} {m : Str → Option Value} {s : Shared} {Q E : Value → Shared → Prop} {x : Str} {tx : Tok}
    (k1 : Below A₀ base outer h₀) (k2 : Fr h₀ L s.heap m) (k3 : (KK w.params).In h₀) (k4 : News h₀ L s.heap news) (k5 : Top vw ls mean mg mb h₀) (kK : cs.kind = .function) (kd : dp + 10 < recursionLimit) (ku : un + 100 < cLine)
    (hx : x.length ≤ 100) (hb : ∀ c ∈ x.cps.toList, (b3 ⟨#[c]⟩).length ≤ 10) (kT : IntTab P w h₀ 75 b3D)
    (ret : ∀ (t : Tok) (h' : Heap) (tk' : Nat), Fr h₀ L h' m → News h₀ L h' news → Q (.str (rd (KStt.codes x)) t) { s with heap := h', toks := tk' }) :
    wpAny (model P w) (ktrTop dp un gd cn cs L a ccd cl outer) (call (.ref 160) [.str x tx]) Q E s := by
  k_with_none
  (k_with "call ref" => (k_here; k_dflt (refine' in_b1_ct ?k1 ?k2 ?k3 ?k4 ?k5 ?kK ?kd ?ku ?hx ?_; (case k1 => k_asm); (case k2 => k_asm); (case k3 => k_asm); (case k4 => k_asm); (case k5 => k_asm); (case kK => first | exact rfl | assumption); (case kd => ktr_room); (case ku => ktr_units); (case hx => first | assumption | rfl | (simp; done)); k_whole); intro t'zz h'zz tk'zz F'zz N'zz; (try k_sweep); (try dsimp only); (try k_fold)))
  (k_with "call ref" => (k_here; k_dflt (refine' concat_ct ?k1 ?k2 ?k3 ?k4 ?k5 ?kK ?kd ?ku ?hlen ?_; (case k1 => k_asm); (case k2 => k_asm); (case k3 => k_asm); (case k4 => k_asm); (case k5 => k_asm); (case kK => first | exact rfl | assumption); (case kd => ktr_room); (case ku => ktr_units); (case hlen => exact rd_len (by assumption) (by assumption) (by assumption) (by assumption) (by assumption)); k_whole); intro t'zz h'zz tk'zz F'zz N'zz; (try k_sweep); (try dsimp only); (try k_fold)))
  (k_with "call ref" => (k_here; k_dflt (refine' map_b3_ct ?k1 ?k2 ?k3 ?k4 ?k5 ?kK ?kd ?ku ?hx ?kT ?_; (case k1 => k_asm); (case k2 => k_asm); (case k3 => k_asm); (case k4 => k_asm); (case k5 => k_asm); (case kK => first | exact rfl | assumption); (case kd => ktr_room); (case ku => ktr_units); (case hx => first | assumption | rfl | (simp; done)); (case kT => assumption); k_whole); intro t'zz h'zz tk'zz F'zz N'zz; (try k_sweep); (try dsimp only); (try k_fold)))
  refine wpAny_call ?_
  k_dflt cell_enter
  (rename Fr h₀ L _ m => FG)
  have kT' := kT.keep FG.keep
  (k_with "pyIter str" => k_state (fun pre word => RdP pre word) "word")
  (k_with "state" => first | exact rd_start | exact rd_skip (by assumption) (by assumption) | exact rd_more (by assumption) (by assumption) (b3_le (by assumption) (by assumption)))
  k_steps
  rename RdP _ _ => hR
  rw [← hR.1] at ret
  exact ret _ _ _ (by assumption) (by first | assumption | exact cb_drop (by assumption) (fun p hp => by first | exact List.mem_cons_of_mem _ hp | simp [hp]))


end Mine
end
theorem Mine.rs15 : True := by k_with_none; w_top off; trivial
section
open PySem PySem.W PyProof.Rows
namespace Mine

structure SRow where
  i : Str
  x : Int
  k1 : Nat
  p1 : Pos
  k2 : Nat
  p2 : Pos
abbrev SRow.prs (env : Env) (pos : Pos) (r : SRow) : Sem Value × Sem Value :=
  (eval (.Constant (.str r.i) r.k1 r.p1) env, do let x ← eval (.Constant (.int r.x) r.k2 r.p2) env; standAt pos; pure x)
abbrev SRow.itm (env : Env) (pos : Pos) (r : SRow) : Option (Sem Value) × Sem Value := (some (r.prs env pos).1, (r.prs env pos).2)
noncomputable def intOf : Value → Option Int
  | .int x _ => some x
  | _ => none
noncomputable def SRowsAre (rows : List SRow) (kvs : List (Str × Value)) : Prop := kvs.map (fun kv => (kv.1, intOf kv.2)) = rows.map fun r => (r.i, some r.x)
theorem SRowsAre.nil : SRowsAre [] [] := rfl
theorem SRowsAre.append {a b : List SRow} {x y : List (Str × Value)} (h : SRowsAre a x) (k : SRowsAre b y) : SRowsAre (a ++ b) (x ++ y) := by
  unfold SRowsAre at *; rw [List.map_append, List.map_append, h, k]
theorem SRowsAre.length {a : List SRow} {x : List (Str × Value)} (h : SRowsAre a x) : x.length = a.length := by
  have := congrArg List.length h; simpa using this
theorem SRowsAre.keys {a : List SRow} {x : List (Str × Value)} (h : SRowsAre a x) : x.map (·.1) = a.map (·.i) := by
  have := congrArg (List.map (·.1)) h; rw [List.map_map, List.map_map] at this; exact this
theorem SRowsAre.cons {r : SRow} {a : List SRow} {x : List (Str × Value)} (t : Tok) (h : SRowsAre a x) : SRowsAre (r :: a) ((r.i, .int r.x t) :: x) := by
  unfold SRowsAre at *; rw [List.map_cons, List.map_cons, h]; rfl

section
variable {prog : Program} {w : World} {A : Around} {E : Value → Shared → Prop} {env : Env} {pos : Pos}
abbrev kS (prog : Program) (w : World) := PySem.strKind prog w

theorem s_long_loop {d : Addr} : ∀ (rows : List SRow) (acc : List (Str × Value)) (s : Shared) (Q : PUnit → Shared → Prop), s.heap.DictOf (kS prog w) d acc → acc.length + rows.length ≤ sizeLine →
    (∀ h' kvs, SRowsAre rows kvs → h'.DictOf (kS prog w) d (merged acc kvs) → Heap.SameBut d s.heap h' → Q PUnit.unit { s with heap := h', toks := s.toks + 3 * rows.length }) →
    wpAny (model prog w) A (forIn (rows.map (SRow.prs env pos)) PUnit.unit fun (x : Sem Value × Sem Value) (_ : PUnit) => (do
      let kv ← x.1
      let vv ← holding [kv] x.2
      holding [kv, vv] (dictSet d kv vv)
      pure (ForInStep.yield PUnit.unit) : Sem (ForInStep PUnit))) Q E s
  | [], acc, s, Q, hm, _, hQ => by
    rw [List.map_nil, List.forIn_nil]
    exact wpAny_pure (by simpa [merged] using hQ s.heap [] SRowsAre.nil (by simpa [merged] using hm) (Heap.SameBut.refl _ _))
  | r :: rows, acc, s, Q, hm, hsz, hQ => by
    rw [List.length_cons] at hsz
    rw [List.map_cons, List.forIn_cons]
    refine wpAny_bind (wpAny_bind (wpAny_Constant_str (env := env) (k := r.k1) (pos := r.p1) ?_))
    refine wpAny_bind (wpAny_holding (wpAny_bind (wpAny_Constant_int (env := env) (k := r.k2) (pos := r.p2) (wpAny_bind (wpAny_standAt (wpAny_pure ?_))))))
    refine wpAny_bind (wpAny_holding (wpAny_dictSet_pairs (knd := kS prog w) (k := r.i) (kvs := acc) (hsz := by omega) (strKind_is _ _ _ _) hm fun h₁ hm₁ hs₁ => wpAny_pure ?_))
    refine s_long_loop rows (stored acc r.i _) _ Q hm₁ (by have e := stored_length_le acc r.i (Value.int r.x (s.toks + 1)); dsimp only; omega) fun h' kvs hr hm' hs' => ?_
    have := hQ h' ((r.i, .int r.x (s.toks + 1)) :: kvs) (hr.cons _) (by simpa [merged] using hm') (hs₁.trans hs')
    have e : s.toks + 3 * (r :: rows).length = s.toks + 1 + 1 + 1 + 3 * rows.length := by rw [List.length_cons]; omega
    rw [e] at this
    exact this

theorem s_short_eval : ∀ (rows : List SRow) (s : Shared) (Q : List (Value × Value) → Shared → Prop),
    (∀ vs kvs, SRowsAre rows kvs → Carries (kS prog w) vs kvs → vs.length = rows.length → Q vs { s with toks := s.toks + 2 * rows.length }) →
    wpAny (model prog w) A (evalPairs (rows.map (SRow.prs env pos))) Q E s
  | [], s, Q, hQ => evalPairs_nil (by simpa using hQ [] [] SRowsAre.nil trivial rfl)
  | r :: rows, s, Q, hQ => by
    rw [List.map_cons]
    refine evalPairs_cons (wpAny_Constant_str (env := env) (k := r.k1) (pos := r.p1) ?_)
    refine wpAny_bind (wpAny_Constant_int (env := env) (k := r.k2) (pos := r.p2) (wpAny_bind (wpAny_standAt (wpAny_pure ?_))))
    refine s_short_eval rows _ _ fun vs kvs hr hc hl => ?_
    have := hQ ((.str r.i s.toks, .int r.x (s.toks + 1)) :: vs) ((r.i, .int r.x (s.toks + 1)) :: kvs) (hr.cons _) ⟨strKind_is _ _ _ _, rfl, hc⟩ (by rw [List.length_cons, List.length_cons, hl])
    have e : s.toks + 2 * (r :: rows).length = s.toks + 1 + 1 + 2 * rows.length := by rw [List.length_cons]; omega
    rw [e] at this
    exact this

theorem s_sub_ok (rows : List SRow) (s : Shared) (Q : Addr → Shared → Prop) (hle : rows.length ≤ 17)
    (hQ : ∀ h' kvs, SRowsAre rows kvs → h'.DictOf (kS prog w) s.heap.objs.size (merged [] kvs) → h'.objs.size = s.heap.objs.size + 1 → (∀ b, b < s.heap.objs.size → h'.get? b = s.heap.get? b) → Q s.heap.objs.size { s with heap := h', toks := s.toks + 3 * rows.length }) :
    wpAny (model prog w) A (subDict (rows.map (SRow.prs env pos))) Q E s := by
  have old : ∀ b, b < s.heap.objs.size → (s.heap.push { cls := .type "dict", data := .dict #[] }).get? b = s.heap.get? b := fun b hb => Heap.get?_push_ne _ _ _ (Nat.ne_of_lt hb)
  have fin : ∀ h' kvs, SRowsAre rows kvs → h'.DictOf (kS prog w) s.heap.objs.size (merged [] kvs) → Heap.SameBut s.heap.objs.size (s.heap.push { cls := .type "dict", data := .dict #[] }) h' → Q s.heap.objs.size { s with heap := h', toks := s.toks + 3 * rows.length } :=
    fun h' kvs hr hm hs => hQ h' kvs hr hm (by rw [hs.1, Heap.size_push]) fun b hb => (hs.2 b (Nat.ne_of_lt hb)).trans (old b hb)
  by_cases h15 : rows.length ≤ 15
  · refine wpAny_subDict (knd := kS prog w) (by rw [List.length_map]; exact h15) ?_
    refine s_short_eval rows _ _ fun vs kvs hr hc hl => ⟨kvs, hc, Heap.DictOf.new _, fun h' hm hs => ?_⟩
    have := fin h' kvs hr hm hs
    have e : s.toks + 3 * rows.length = s.toks + 2 * rows.length + vs.length := by rw [hl]; omega
    rw [e] at this
    exact this
  · unfold subDict
    refine wpAny_bind (wpAny_alloc ?_)
    refine wpAny_bind (wpAny_holding ?_)
    rw [if_neg (by rw [List.length_map]; exact h15)]
    refine wpAny_bind (wpAny_rule ?_)
    refine wpAny_bind ?_
    refine s_long_loop rows [] _ _ (Heap.DictOf.new _) (by rw [sizeLine_eq, List.length_nil]; omega) fun h' kvs hr hm hs => ?_
    exact wpAny_pure (wpAny_pure (fin h' kvs hr hm hs))

theorem s_put_ok {d : Addr} {s : Shared} {kvs : List (Str × Value)} {k : Str} {key v : Value} {Q : Unit → Shared → Prop} (hkey : (kS prog w).is k key = true) (hm : s.heap.DictOf (kS prog w) d kvs)
    (hQ : ∀ h', h'.DictOf (kS prog w) d (stored kvs k v) → Heap.SameBut d s.heap h' → Q () { s with heap := h' }) (hsz : kvs.length ≤ sizeLine) :
    wpAny (model prog w) A (dictPut d ((kS prog w).hash k) key v) Q E s := by
  obtain ⟨o, es, ep, ho, hc, hd, hk, hp, hn⟩ := hm
  have hes : es.size ≤ sizeLine := by
    have e1 := hp.length
    have e2 : es.toList.length = es.size := by simp
    omega
  unfold dictPut
  refine wpAny_bind (wpAny_dictFind_of hkey ho hd hk ?_)
  have hidx : (es.findIdx? fun e => (kS prog w).is k e.key) = kvs.findIdx? fun kv => decide (kv.1 = k) := by
    rw [← hp.findIdx k]; obtain ⟨l⟩ := es; simp
  cases hi : es.findIdx? fun e => (kS prog w).is k e.key with
  | some i =>
    have hany := any_of_findIdx_some (hidx ▸ hi)
    have hl : (es.toList.findIdx? fun e => (kS prog w).is k e.key) = some i := by rw [← hi]; obtain ⟨l⟩ := es; simp
    refine wpAny_updateDict ho hd (hQ _ ⟨_, _, ep, Heap.get?_update_self _ ho (Obj.isFreed_of_dict (Obj.data_mapDict hd _)), hc.mapDict _, Obj.data_mapDict hd _, hk.modify _ _, ?_, ?_⟩ (Heap.SameBut.update ..))
    · rw [stored, if_pos hany]
      have := hp.modify hn hl v
      obtain ⟨l⟩ := es
      simpa using this
    · rw [stored, if_pos hany, keys_map_store]; exact hn
  | none =>
    have hnot : k ∉ kvs.map (·.1) := not_mem_of_findIdx_none (hidx ▸ hi)
    have hany : ¬ (kvs.any fun kv => decide (kv.1 = k)) = true := by
      rw [List.any_eq_true]; rintro ⟨kv, hkv, he⟩
      exact hnot (List.mem_map.mpr ⟨kv, hkv, of_decide_eq_true he⟩)
    refine wpAny_updateDictKeys (hz := hes) ho hd (hQ _ ⟨_, _, ep + 1, Heap.get?_update_self _ ho (Obj.isFreed_of_dict (Obj.data_mapDictKeys hd _)), hc.mapDictKeys _, Obj.data_mapDictKeys hd _, hk.push hkey _, ?_, ?_⟩ (Heap.SameBut.update ..))
    · rw [stored, if_neg hany]
      have := hp.append hkey ((kS prog w).hash k) v
      obtain ⟨l⟩ := es
      simpa using this
    · rw [stored, if_neg hany, List.map_append, List.nodup_append]
      refine ⟨hn, by simp, ?_⟩
      intro a ha b hb
      simp only [List.map_cons, List.map_nil, List.mem_singleton] at hb
      subst hb
      exact fun e => hnot (e ▸ ha)

theorem s_merge_ok {d o : Addr} {s : Shared} {kvs more : List (Str × Value)} {Q : Unit → Shared → Prop} (hdo : d ≠ o) (hoS : (o == sysModules) = false) (hne : kvs ≠ [])
    (hd : s.heap.DictOf (kS prog w) d kvs) (ho : s.heap.DictOf (kS prog w) o more)
    (hQ : ∀ h', h'.DictOf (kS prog w) d (merged kvs more) → Heap.SameBut d s.heap h' → Q () { s with heap := h' })
    (hsz : kvs.length + more.length ≤ sizeLine) :
    wpAny (model prog w) A (mergeMapping d (.ref o) false) Q E s := by
  obtain ⟨od, esd, epd, hod, hcd, hdd, hkd, hpd, hnd⟩ := id hd
  obtain ⟨oo, eso, epo, hoo, hco, hdo', hko, hpo, hno⟩ := id ho
  unfold mergeMapping
  refine wpAny_bind (wpAny_isInstance ho.typeIs F.sub_dict_dict ?_)
  rw [if_pos rfl]
  refine wpAny_bind (wpAny_specialOf ho.typeIs F.slot_dict_iter.lookup (wpAny_bind (wpAny_pure ?_)))
  have hb : (some (Value.builtin "dict.__iter__") == some (Value.builtin "dict.__iter__")) = true := by rfl
  rw [hb]
  dsimp only
  rw [if_neg (by rw [hoS]; exact Bool.false_ne_true)]
  refine wpAny_bind (wpAny_dictEntries hod hdd ?_)
  have hlen : more.length = eso.size := by rw [← hpo.length]; simp
  rw [if_neg (by
    intro he
    have h0 : esd = #[] := Array.isEmpty_iff.mp he
    have := hpd.length
    rw [h0] at this
    exact hne (List.length_eq_zero_iff.mp (by simpa using this.symm)))]
  refine wpAny_bind (wpAny_dictEntries hoo hdo' ?_)
  refine wpAny_bind (wpAny_dictEpoch hoo hdo' ?_)
  refine wpAny_bind ?_
  rw [List.range_eq_range']
  refine wpAny_forIn_list _
    (fun rest _ s' => ∃ h' i, s' = { s with heap := h' } ∧ rest = List.range' i (eso.size - i) ∧ i ≤ eso.size ∧ h'.DictOf (kS prog w) d (merged kvs (more.take i)) ∧ h'.get? o = some oo ∧ Heap.SameBut d s.heap h')
    _ ?_ ?_ _ _ ⟨s.heap, 0, rfl, by simp, Nat.zero_le _, by simpa [merged] using hd, hoo, Heap.SameBut.refl _ _⟩
  · rintro x rest b s' ⟨h', i, rfl, hr, hi, hd', hoo', hs'⟩
    have hlt : i < eso.size := by
      rcases Nat.lt_or_ge i eso.size with h | h
      · exact h
      · rw [Nat.sub_eq_zero_of_le h] at hr; simp at hr
    obtain ⟨rfl, hrest⟩ : x = i ∧ rest = List.range' (i + 1) (eso.size - (i + 1)) := by
      have e : eso.size - i = (eso.size - (i + 1)) + 1 := by omega
      rw [e, List.range'_succ] at hr
      injection hr with h1 h2
      exact ⟨h1, h2⟩
    refine wpAny_bind (wpAny_dictEntries hoo' hdo' ?_)
    rw [Array.getElem?_eq_getElem hlt]
    obtain ⟨kv, hkv⟩ : ∃ kv, more[x]? = some kv := ⟨more[x]'(by rw [hlen]; exact hlt), List.getElem?_eq_getElem _⟩
    obtain ⟨k, v⟩ := kv
    obtain ⟨hkey, hval⟩ := hpo.get? (e := eso[x]) (by simp [hlt]) hkv
    obtain ⟨k', hkey', hhash⟩ := hko eso[x] (Array.getElem_mem hlt)
    obtain rfl : k' = k := (kS prog w).inj _ _ _ hkey' hkey
    dsimp only
    rw [if_neg Bool.false_ne_true, hhash, hval]
    have hmx : (merged kvs (more.take x)).length ≤ sizeLine := by
      have e1 := merged_length_le kvs (more.take x)
      have e2 : (more.take x).length ≤ more.length := by rw [List.length_take]; omega
      omega
    refine wpAny_bind (wpAny_holding (s_put_ok hkey hd' (fun h'' hd'' hs'' => ?_) hmx))
    have hoo'' : h''.get? o = some oo := (hs''.2 o (Ne.symm hdo)).trans hoo'
    refine wpAny_bind (wpAny_dictEpoch hoo'' hdo' ?_)
    rw [if_neg (by simp)]
    exact wpAny_pure ⟨h'', x + 1, rfl, hrest, hlt, by rw [merged_take_succ kvs more x (k', v) hkv]; exact hd'', hoo'', hs'.trans hs''⟩
  · rintro b s' ⟨h', i, rfl, hr, hi, hd', hoo', hs'⟩
    have hin : i = eso.size := by
      rcases Nat.lt_or_ge i eso.size with h | h
      · have e : eso.size - i = (eso.size - (i + 1)) + 1 := by omega
        rw [e, List.range'_succ] at hr; exact nomatch hr
      · exact Nat.le_antisymm hi h
    refine wpAny_pure (hQ h' ?_ hs')
    rw [hin, ← hlen, List.take_length] at hd'; exact hd'

noncomputable def s_flushD (main : Option Addr) (run : List (Sem Value × Sem Value)) : Sem (Option Addr) :=
  if run.isEmpty = true then pure main else match main with
    | none => do
      let d ← subDict run
      pure (some d)
    | some d => do
      let sub ← holding [Value.ref d] (subDict run)
      (holding [Value.ref d, Value.ref sub] (mergeMapping d (Value.ref sub) false)).onRaise fun x => do
        let _ ← holding [Value.ref d, x] (runValue (Code.builtin "proto.let_go" {}))
        pure ()
      pure (some d)

noncomputable def s_DInv (prog : Program) (w : World) (sz0 : Nat) (h0 : Heap) (done : List SRow) (main : Option Addr) (h : Heap) : Prop :=
  (∀ b, b < sz0 → h.get? b = h0.get? b) ∧ h.objs.size = sz0 + (done.length + 16) / 17 ∧
    ((done = [] ∧ main = none) ∨ (done ≠ [] ∧ main = some sz0 ∧ ∃ kvs, SRowsAre done kvs ∧ h.DictOf (kS prog w) sz0 kvs))

theorem s_dictOf_at {h h' : Heap} {a : Addr} {kvs : List (Str × Value)} (hm : h.DictOf (kS prog w) a kvs) (e : h'.get? a = h.get? a) : h'.DictOf (kS prog w) a kvs :=
  let ⟨o, es, ep, ho, r⟩ := hm; ⟨o, es, ep, e.trans ho, r⟩

theorem s_flush_ok {sz0 : Nat} {h0 : Heap} {done runR : List SRow} {main : Option Addr} {s : Shared} {Q : Option Addr → Shared → Prop} (hI : s_DInv prog w sz0 h0 done main s.heap) (hr : runR ≠ []) (hle : runR.length ≤ 17)
    (hnd : ((done ++ runR).map (·.i)).Nodup) (h17 : done.length % 17 = 0) (hsys : sysModules < sz0) (hsz : (done ++ runR).length ≤ sizeLine)
    (hQ : ∀ main' h', s_DInv prog w sz0 h0 (done ++ runR) main' h' → Q main' { s with heap := h', toks := s.toks + 3 * runR.length }) :
    wpAny (model prog w) A (s_flushD main (runR.map (SRow.prs env pos))) Q E s := by
  obtain ⟨hk, hs, hc⟩ := hI
  have hlen : runR.length ≠ 0 := fun e => hr (List.length_eq_zero_iff.mp e)
  have hcount : (done.length + 16) / 17 + 1 = ((done ++ runR).length + 16) / 17 := by rw [List.length_append]; omega
  have hne' : done ++ runR ≠ [] := fun e => hr (List.append_eq_nil_iff.mp e).2
  have hnd2 : (runR.map (·.i)).Nodup := by rw [List.map_append, List.nodup_append] at hnd; exact hnd.2.1
  unfold s_flushD
  rw [if_neg (by
    rw [List.isEmpty_iff]
    exact fun e => hr (List.map_eq_nil_iff.mp e))]
  rcases hc with ⟨rfl, rfl⟩ | ⟨hd0, rfl, kvs, hkv, hD⟩
  · dsimp only
    refine wpAny_bind (s_sub_ok runR s _ hle fun h' kvs hr' hm hsz' hold => wpAny_pure (hQ _ _ ⟨fun b hb => ?_, ?_, .inr ⟨hne', ?_, kvs, ?_, ?_⟩⟩))
    · exact (hold b (by rw [hs]; exact Nat.lt_add_right _ hb)).trans (hk b hb)
    · rw [hsz', hs, ← hcount]; omega
    · rw [hs]; simp
    · exact hr'
    · rw [merged_nil_of_nodup kvs (by rw [hr'.keys]; exact hnd2)] at hm
      have e : s.heap.objs.size = sz0 := by rw [hs]; simp
      rw [e] at hm; exact hm
  · dsimp only
    have hpos : 0 < (done.length + 16) / 17 := by
      have : done.length ≠ 0 := fun e => hd0 (List.length_eq_zero_iff.mp e)
      omega
    refine wpAny_bind (wpAny_holding (s_sub_ok runR s _ hle fun h' kvs2 hr' hm hsz' hold => ?_))
    rw [merged_nil_of_nodup kvs2 (by rw [hr'.keys]; exact hnd2)] at hm
    have hD' : h'.DictOf (kS prog w) sz0 kvs := s_dictOf_at hD (hold sz0 (by rw [hs]; omega))
    have hne : kvs ≠ [] := fun e => hd0 (List.length_eq_zero_iff.mp (by rw [← hkv.length, e]; rfl))
    have hlt : sz0 < s.heap.objs.size := by rw [hs]; omega
    refine wpAny_bind (wpAny_onRaise (wpAny_holding (s_merge_ok (s := { s with heap := h', toks := s.toks + 3 * runR.length }) (Nat.ne_of_lt hlt) (beq_eq_false_iff_ne.mpr (Nat.ne_of_gt (Nat.lt_trans hsys hlt))) hne hD' hm (fun h'' hM hs'' => ?_) ?_)))
    · refine wpAny_pure (hQ _ _ ⟨fun b hb => ?_, ?_, .inr ⟨hne', rfl, kvs ++ kvs2, hkv.append hr', ?_⟩⟩)
      · exact (hs''.2 b (Nat.ne_of_lt hb)).trans ((hold b (Nat.lt_trans hb hlt)).trans (hk b hb))
      · rw [hs''.1]
        show h'.objs.size = _
        rw [hsz', hs, ← hcount]; omega
      · rw [merged_append_of_fresh kvs kvs2 (by rw [List.map_append, hkv.keys, hr'.keys, ← List.map_append]; exact hnd)] at hM
        exact hM
    · rw [hkv.length, hr'.length, ← List.length_append]; exact hsz

theorem s_display_ok (rows : List SRow) (s : Shared) (Q : Value → Shared → Prop) (hnd : (rows.map (·.i)).Nodup) (hlo : rows ≠ []) (hsz : rows.length ≤ sizeLine) (hsys : sysModules < s.heap.objs.size)
    (hQ : ∀ h' kvs, SRowsAre rows kvs → h'.DictOf (kS prog w) s.heap.objs.size kvs → h'.objs.size = s.heap.objs.size + (rows.length + 16) / 17 → (∀ b, b < s.heap.objs.size → h'.get? b = s.heap.get? b) → Q (.ref s.heap.objs.size) { s with heap := h', toks := s.toks + 3 * rows.length }) :
    wpAny (model prog w) A (dictDisplay (rows.map (SRow.itm env pos))) Q E s := by
  have fin : ∀ (done : List SRow) (main : Option Addr) (h' : Heap), done = rows → s_DInv prog w s.heap.objs.size s.heap done main h' →
      wpAny (model prog w) A (match main with | some d => pure (Value.ref d) | none => newDict) Q E { s with heap := h', toks := s.toks + 3 * rows.length } := by
    rintro done main h' rfl ⟨hk, hs, hc⟩
    rcases hc with ⟨e, _⟩ | ⟨_, rfl, kvs, hkv, hD⟩
    · exact absurd e hlo
    · exact wpAny_pure (hQ h' kvs hkv hD hs hk)
  unfold dictDisplay
  dsimp only
  refine wpAny_bind ?_
  refine wpAny_forIn_list _
    (fun rest (st : Option Addr × List (Sem Value × Sem Value)) s' => ∃ done runR restR h', rows = done ++ runR ++ restR ∧ rest = restR.map (SRow.itm env pos) ∧ st.2 = runR.map (SRow.prs env pos) ∧ runR.length < 17 ∧ done.length % 17 = 0 ∧
      s_DInv prog w s.heap.objs.size s.heap done st.1 h' ∧ s' = { s with heap := h', toks := s.toks + 3 * done.length })
    _ ?_ ?_ _ _ ⟨[], [], rows, s.heap, rfl, rfl, rfl, by simp, rfl, ⟨fun _ _ => rfl, by simp, .inl ⟨rfl, rfl⟩⟩, rfl⟩
  · rintro x rest ⟨main, run⟩ s' ⟨done, runR, restR, h', hrows, hrest, hrun, hlt, h17, hI, rfl⟩
    cases restR with
    | nil => cases hrest
    | cons r restR =>
      rw [List.map_cons] at hrest
      injection hrest with hx hrest
      subst hx hrest
      dsimp only at hrun hI
      subst hrun
      dsimp only
      have e1 : runR.map (SRow.prs env pos) ++ [((r.prs env pos).1, (r.prs env pos).2)] = (runR ++ [r]).map (SRow.prs env pos) := by rw [List.map_append]; rfl
      by_cases h16 : runR.length + 1 = 17
      · rw [if_pos (by simp [h16])]
        refine wpAny_bind ?_
        rw [e1]
        have hsub : ((done ++ (runR ++ [r])).map (·.i)).Nodup := by
          have : rows = (done ++ (runR ++ [r])) ++ restR := by rw [hrows]; simp
          rw [this, List.map_append, List.nodup_append] at hnd
          exact hnd.1
        refine s_flush_ok (s := { s with heap := h', toks := s.toks + 3 * done.length }) hI (by simp) (by rw [List.length_append]; simp; omega) hsub h17 hsys ?_ fun main' h'' hI' => wpAny_pure ?_
        · have : rows.length = (done ++ (runR ++ [r])).length + restR.length := by rw [hrows]; simp; omega
          omega
        · refine ⟨done ++ (runR ++ [r]), [], restR, h'', by rw [hrows]; simp, rfl, rfl, by simp, ?_, hI', ?_⟩
          · rw [List.length_append, List.length_append]; simp; omega
          · show Shared.mk _ _ _ _ _ = Shared.mk _ _ _ _ _
            have e : s.toks + 3 * done.length + 3 * (runR ++ [r]).length = s.toks + 3 * (done ++ (runR ++ [r])).length := by rw [List.length_append (as := done)]; omega
            exact congrArg (fun k => Shared.mk h'' s.gens s.drawn k s.os) e
      · rw [if_neg (by simp; omega)]
        refine wpAny_pure ⟨done, runR ++ [r], restR, h', by rw [hrows]; simp, rfl, e1, ?_, h17, hI, rfl⟩
        rw [List.length_append]; simp; omega
  · rintro ⟨main, run⟩ s' ⟨done, runR, restR, h', hrows, hrest, hrun, hlt, h17, hI, rfl⟩
    have hr0 : restR = [] := List.map_eq_nil_iff.mp hrest.symm
    subst hr0
    dsimp only at hrun hI
    subst hrun
    rw [List.append_nil] at hrows
    dsimp only
    refine wpAny_bind ?_
    show wpAny _ _ (s_flushD main (runR.map (SRow.prs env pos))) _ _ _
    by_cases hr : runR = []
    · subst hr
      unfold s_flushD
      rw [if_pos (by rfl)]
      refine wpAny_pure ?_
      rw [List.append_nil] at hrows
      have := fin done main h' hrows.symm hI
      rw [hrows] at this
      exact this
    · refine s_flush_ok (s := { s with heap := h', toks := s.toks + 3 * done.length }) hI hr (Nat.le_of_lt hlt) (hrows ▸ hnd) h17 hsys (hrows ▸ hsz) fun main' h'' hI' => ?_
      have := fin _ main' h'' hrows.symm hI'
      have e : s.toks + 3 * rows.length = s.toks + 3 * done.length + 3 * runR.length := by rw [hrows, List.length_append]; omega
      rw [e] at this
      exact this
end
end Mine
end
theorem Mine.rs16 : True := by k_with_none; w_top off; trivial
section
open PySem PySem.W PyProof.Rows PySem.Calls PyProof.V PySem.Spec
set_option maxRecDepth 100000
set_option maxHeartbeats 8000000
namespace Mine
theorem s_eachOpt (env : Env) : ∀ rows : List SRow, evalEachOpt (rows.map fun r => some (.Constant (.str r.i) r.k1 r.p1)) env = rows.map fun r => some (eval (.Constant (.str r.i) r.k1 r.p1) env)
  | [] => rfl
  | r :: rows => by
    rw [List.map_cons, List.map_cons, ← s_eachOpt env rows]; rfl
theorem s_each (env : Env) : ∀ rows : List SRow, evalEach (rows.map fun r => .Constant (.int r.x) r.k2 r.p2) env = rows.map fun r => eval (.Constant (.int r.x) r.k2 r.p2) env
  | [] => rfl
  | r :: rows => by
    rw [List.map_cons, List.map_cons, ← s_each env rows]; rfl
theorem s_items (env : Env) (pos : Pos) : ∀ rows : List SRow, (rows.map fun r => some (eval (.Constant (.str r.i) r.k1 r.p1) env)).zip ((rows.map fun r => eval (.Constant (.int r.x) r.k2 r.p2) env).map fun v => do let x ← v; standAt pos; pure x) = rows.map (SRow.itm env pos)
  | [] => rfl
  | r :: rows => by
    rw [List.map_cons, List.map_cons, List.map_cons, List.zip_cons_cons, List.map_cons, s_items env pos rows]
noncomputable def rowsS : List (Option PySem.Expr) → List PySem.Expr → List SRow
  | some (.Constant (.str i) k1 p1) :: ks, .Constant (.int x) k2 p2 :: vs => ⟨i, x, k1, p1, k2, p2⟩ :: rowsS ks vs
  | _, _ => []
noncomputable def joinedL : List (Str × Int) := [(Str.ofString "ka", 13188), (Str.ofString "kb", 13189), (Str.ofString "mb", 13190), (Str.ofString "gb", 13191), (Str.ofString "pa", 13184), (Str.ofString "ma", 13187), (Str.ofString "kpa", 13226), (Str.ofString "mpa", 13227), (Str.ofString "gpa", 13228), (Str.ofString "fi", 64257), (Str.ofString "fl", 64258), (Str.ofString "st", 64262), (Str.ofString "nf", 13195), (Str.ofString "hz", 13200), (Str.ofString "khz", 13201), (Str.ofString "mhz", 13202), (Str.ofString "kv", 13240), (Str.ofString "mv", 13239), (Str.ofString "kw", 13246), (Str.ofString "mw", 13245), (Str.ofString "km", 13262)]
theorem flat_srows : ∀ (rows : List SRow) (kvs : List (Str × Value)), SRowsAre rows kvs → FlatPairs PyData.str kvs (kdpD (rows.map fun r => (r.i, r.x)))
  | [], [], _ => .nil
  | [], _ :: _, h => by cases h
  | _ :: _, [], h => by cases h
  | r :: rows, (i, v) :: kvs, h => by
    unfold SRowsAre at h
    rw [List.map_cons, List.map_cons] at h
    injection h with h1 h2
    injection h1 with h3 h4
    dsimp only at h3 h4
    subst h3
    have hv : ∃ t, v = .int r.x t := by
      cases v with
      | int x t =>
        have : x = r.x := Option.some.inj h4
        exact ⟨t, by rw [this]⟩
      | _ => cases h4
    obtain ⟨t, rfl⟩ := hv
    exact .cons (Flat.int _ _) (flat_srows rows kvs h2)
theorem sys_low {w : World} {h₀ : Heap} (X : (KK w.params).In h₀) : sysModules < h₀.objs.size :=
  Nat.lt_trans (by decide) (Heap.lt_size (X 64 _ (b1_at _)))
theorem joinedL_nodup : (joinedL.map (·.1)).Nodup := by decide +kernel
theorem joined_made {w : World} {A : Around} {s : Shared} {Q : Value → Shared → Prop} {E : Value → Shared → Prop} {h₀ : Heap} {L : Addr} {m : Str → Option Value} {news : List (Addr × Obj)} {env : Env} {keys : List (Option PySem.Expr)} {values : List PySem.Expr} {pos : Pos}
    (F : Fr h₀ L s.heap m) (N : News h₀ L s.heap news) (X : (KK w.params).In h₀)
    (hk : keys = (rowsS keys values).map fun r => some (.Constant (.str r.i) r.k1 r.p1)) (hv : values = (rowsS keys values).map fun r => .Constant (.int r.x) r.k2 r.p2)
    (hd : ((rowsS keys values).map fun r => (r.i, r.x)) = joinedL)
    (h : ∀ d o kvs h' tk', Fr h₀ L h' m → News h₀ L h' ((d, o) :: news) → (d == sysModules) = false → o.IsDictOf (strKind P w) kvs → FlatPairs PyData.str kvs (kdpD joinedL) → Q (.ref d) { s with heap := h', toks := tk' }) :
    wpAny (model P w) A (eval (.Dict keys values pos) env) Q E s := by
  have hl : (rowsS keys values).length = 21 := by rw [← List.length_map (f := fun r : SRow => (r.i, r.x)), hd]; rfl
  rw [arm_eval_Dict]
  generalize rowsS keys values = rows at hk hv hd hl
  subst hk hv
  rw [s_eachOpt, s_each, s_items]
  refine wpAny_bind (wpAny_standAt ?_)
  have hlow := Nat.lt_trans (sys_low X) (Nat.lt_of_le_of_lt F.above F.ns.lt)
  refine s_display_ok rows s Q ?_ (fun e => by rw [e] at hl; cases hl) (by rw [hl, sizeLine_eq]; decide) hlow fun h' kvs hr hm hs hold => ?_
  · have := joinedL_nodup
    rw [← hd, List.map_map] at this
    exact this
  · obtain ⟨o, ho, hdo⟩ := Heap.dictOf_iff.mp hm
    have hf := flat_srows rows kvs hr
    rw [hd] at hf
    have keep : ∀ b x, s.heap.get? b = some x → h'.get? b = some x := fun b x hb => (hold b (Heap.lt_size hb)).trans hb
    refine h _ o kvs h' _ ⟨F.ns.keeps keep, fun b x hb => keep b x (F.keep b x hb), F.above⟩ ?_ (beq_eq_false_iff_ne.mpr (Nat.ne_of_gt hlow)) hdo hf
    intro p hp
    rcases List.mem_cons.mp hp with rfl | hp
    · refine ⟨ho, Nat.ne_of_gt F.ns.lt, ?_⟩
      cases hq : h₀.get? s.heap.objs.size with
      | none => rfl
      | some o' => exact absurd (Heap.lt_size (F.keep _ _ hq)) (Nat.lt_irrefl _)
    · exact ⟨keep _ _ (N p hp).1, (N p hp).2⟩
end Mine
end
theorem Mine.rs17 : True := by k_with_none; w_top off; trivial
section
open PySem PySem.W PyProof.Rows PySem.Calls PyProof.V PySem.Spec
set_option maxRecDepth 100000
set_option maxHeartbeats 8000000
namespace Mine
section
variable {prog : Program} {w : World} {A₀ A : Around} {s : Shared} {base h₀ : Heap} {outer : List Env} {L : Addr} {m : Str → Option Value} {news : List (Addr × Obj)} {K : Frag} {p : Program} {loose : List Str} {mean : ExcName → Option Value} {mg mb : Str → Option Value}
/-- a def entered with a part of the ledger: the rest lies in the new ground -/
theorem code_own {env : Env} {outer : List Env} {R : Result → Shared → Prop} {name qual : Str} {params : Arguments} {body : List Stmt} {scope : Scope} {dV kV doc pm cdv ct oc : Value} {an od : Option Addr} {osl : Array (Option Value)} {f : Addr} {args : Args} {binds : List (Str × Value)}
    (own : List (Addr × Obj)) (hown : ∀ q ∈ own, q ∈ news)
    (B : Below A₀ base outer h₀) (F : Fr h₀ L s.heap m) (X₀ : K.In h₀) (N : News h₀ L s.heap news) (T : Top p loose mean mg mb h₀) (hA : A.frames = some (env :: outer)) (hf : env.frame = some L) (hke : env.scope.kind = .function)
    (ho : K.lookup f = some ⟨oc, od, .func (fnOf name qual params body scope dV kV doc pm an cdv ct), osl⟩) (hcd : codeIn K cdv qual = true) (hroom : A.depth < recursionLimit)
    (hbind : BindsTo s (fnOf name qual params body scope dV kV doc pm an cdv ct) args binds) (hloc : ∀ y ∈ binds, scope.names.lookup y.1 = some .local)
    (h : ∀ g L' h₁, (∀ q ∈ news, g.get? q.1 = some q.2 ∨ q ∈ own) → Fr h₀ L g m → Fr g L' h₁ (fun y => binds.reverse.lookup y) → News g L' h₁ own → Below A base (env :: outer) g → K.In g → Top p loose mean mg mb g →
      wpAny (model prog w) (A.deeper (envOf qual scope L' f cdv)) (execs body (envOf qual scope L' f cdv))
        (fun fl s' => LeaveK h₀ L m g R (match fl with | .ret v => v | _ => .none) s')
        (fun e s' => wpAny (model prog w) (A.deeper (envOf qual scope L' f cdv)) (leaving (envOf qual scope L' f cdv) e) (fun _ s'' => R (.error e) s'') (fun e' s'' => R (.error e') s'') s')
        { s with heap := h₁, toks := s.toks + binds.length })
    (hco : scope.isCoroutine = false) (hgen : scope.isGenerator = false) (hk : scope.kind = .function)
    (hcell : ∀ x ∈ scope.names, x.2 ≠ .cell) : codeAny (model prog w) A (.call (.ref f) args) R s := by
  have No : News h₀ L s.heap own := fun q hq => N q (hown q hq)
  obtain ⟨FG, BG, st, lv⟩ := groundX (R := R) B F No hA hf hke
  refine codeAny_call_def (fd := fnX name qual params body scope [] dV kV doc pm an cdv ct) (body := body) (binds := binds) hroom ((X₀.keeps F.keep) _ _ ho) rfl (T.nolimit.keeps F.keep) (codeRec_of (X₀.keeps F.keep) hcd) rfl hbind hcell hloc (fun h₁ hns hk₁ => ?_) hco hgen hk
  refine wpAny_mono (h _ s.heap.objs.size h₁ (fun q hq => ?_) FG ⟨hns, fun b o e => hk₁ b o (of_hideAll _ e), Nat.le_of_eq (hideAll_size _ _)⟩
    (fun q hq => ⟨hk₁ _ _ (No q hq).1, Nat.ne_of_lt (Heap.lt_size (No q hq).1), hideAll_none _ (List.mem_map_of_mem hq)⟩) BG (X₀.keeps st) (T.keeps st)) (fun fl s' hl => lv _ _ hl) fun _ _ y => y
  by_cases e : q.1 ∈ own.map (·.1)
  · obtain ⟨r, hr, e⟩ := List.mem_map.mp e
    refine .inr ?_
    have h1 := (N q hq).1
    have h2 := (No r hr).1
    rw [e] at h2
    have : q.2 = r.2 := Option.some.inj (h1.symm.trans h2)
    obtain ⟨q1, q2⟩ := q
    obtain ⟨r1, r2⟩ := r
    dsimp only at this e
    subst this e
    exact hr
  · exact .inl (hideAll_get _ (N q hq).1 e)
theorem code_ownC {env : Env} {outer : List Env} {R : Result → Shared → Prop} {name qual : Str} {params : Arguments} {body : List Stmt} {scope : Scope} {dV kV doc pm cdv ct oc : Value} {an od : Option Addr} {osl : Array (Option Value)} {f : Addr} {args : Args} {binds : List (Str × Value)}
    (own : List (Addr × Obj)) (hown : ∀ q ∈ own, q ∈ news)
    (B : Below A₀ base outer h₀) (F : Fr h₀ L s.heap m) (X₀ : K.In h₀) (N : News h₀ L s.heap news) (T : Top p loose mean mg mb h₀) (hA : A.frames = some (env :: outer)) (hf : env.frame = some L) (hke : env.scope.kind = .function)
    (ho : K.lookup f = some ⟨oc, od, .func (fnOf name qual params body scope dV kV doc pm an cdv ct), osl⟩) (hcd : codeIn K cdv qual = true) (hroom : A.depth < recursionLimit)
    (hbind : BindsTo s (fnOf name qual params body scope dV kV doc pm an cdv ct) args binds) (hkind : (binds.all fun y => scope.names.lookup y.1 == some .local || scope.names.lookup y.1 == some .cell) = true)
    (hnd : ((cellsFrom 0 scope.names []).map (·.1)).Nodup)
    (h : ∀ g L' h₁ tk cells, (∀ q ∈ news, g.get? q.1 = some q.2 ∨ q ∈ own) → Fr h₀ L g m → Fr g L' h₁ (bindL (envOfC qual scope L' f cdv).kindOf binds fun _ => none) → News g L' h₁ (cells ++ own) →
      CellsAre (bindC (envOfC qual scope L' f cdv).kindOf binds fun _ => none) (cellsFrom (L' + 1) scope.names []) cells → Below A base (env :: outer) g → K.In g → Top p loose mean mg mb g → (∀ p ∈ own, p.1 < L') →
      wpAny (model prog w) (A.deeper (envOfC qual scope L' f cdv)) (execs body (envOfC qual scope L' f cdv))
        (fun fl s' => LeaveK h₀ L m g R (match fl with | .ret v => v | _ => .none) s')
        (fun e s' => wpAny (model prog w) (A.deeper (envOfC qual scope L' f cdv)) (leaving (envOfC qual scope L' f cdv) e) (fun _ s'' => R (.error e) s'') (fun e' s'' => R (.error e') s'') s')
        { s with heap := h₁, toks := tk })
    (hco : scope.isCoroutine = false) (hgen : scope.isGenerator = false) (hk : scope.kind = .function) : codeAny (model prog w) A (.call (.ref f) args) R s := by
  have No : News h₀ L s.heap own := fun q hq => N q (hown q hq)
  have X := X₀.keeps F.keep
  obtain ⟨FG, BG, st, lv⟩ := groundX (R := R) B F No hA hf hke
  have hG : ∀ q ∈ news, (hideAll s.heap (own.map (·.1))).get? q.1 = some q.2 ∨ q ∈ own := fun q hq => by
    by_cases e : q.1 ∈ own.map (·.1)
    · obtain ⟨r, hr, e⟩ := List.mem_map.mp e
      refine .inr ?_
      have h1 := (N q hq).1
      have h2 := (No r hr).1
      rw [e] at h2
      have : q.2 = r.2 := Option.some.inj (h1.symm.trans h2)
      obtain ⟨q1, q2⟩ := q
      obtain ⟨r1, r2⟩ := r
      dsimp only at this e
      subst this e
      exact hr
    · exact .inl (hideAll_get _ (N q hq).1 e)
  refine codeAny_call_function hroom (X _ _ ho) rfl hco hgen rfl (codeRec_of X hcd) (hbind _ _ _ _ ?_)
  refine wpAny_newFunctionEnv_cells hk (kindsX hkind _) fun env' he s' x => ?_
  subst he
  refine ⟨(T.nolimit.keeps F.keep).keeps x.toInCall.keep, codeAny_func ?_⟩
  obtain ⟨h₁, tk, rfl, _⟩ := x.done
  have hk₁ := x.toInCall.keep
  obtain ⟨cells, NC, Y⟩ := Cl.news (h₀ := s.heap) (Nat.le_refl _) fun n c hm => ⟨x.cell n c (lookup_of_mem_nodup (cellsFrom_names scope.names 0 (s.heap.objs.size + 1) [] [] rfl ▸ hnd) hm), x.above n c hm⟩
  refine wpAny_mono (h _ s.heap.objs.size h₁ tk cells hG FG ⟨x.toInCall.ns, fun b o e => hk₁ b o (of_hideAll _ e), Nat.le_of_eq (hideAll_size _ _)⟩ (fun p hp => ?_) Y BG (X₀.keeps st) (T.keeps st) (fun p hp => Heap.lt_size (No p hp).1)) (fun fl s' hl => lv _ _ hl) fun _ _ y => y
  rcases List.mem_append.mp hp with hp | hp
  · refine ⟨(NC p hp).1, (NC p hp).2.1, ?_⟩
    cases q : (hideAll s.heap (own.map (·.1))).get? p.1 with
    | none => rfl
    | some o => have := of_hideAll _ q; rw [(NC p hp).2.2] at this; cases this
  · exact ⟨hk₁ _ _ (No p hp).1, Nat.ne_of_lt (Heap.lt_size (No p hp).1), hideAll_none _ (List.mem_map_of_mem hp)⟩
end
/-- the ledger comes back whole -/
theorem tail_back {h₀ h h' g : Heap} {L L' : Addr} {m' : Str → Option Value} {news own led : List (Addr × Obj)} (N : News h₀ L h news) (hG : ∀ q ∈ news, g.get? q.1 = some q.2 ∨ q ∈ own) (F' : Fr g L' h' m') {L'' : Addr} {g' : Heap} (N' : News g' L'' h' led) (sub : ∀ q ∈ own, q ∈ led) : News h₀ L h' news :=
  fun q hq => ⟨(hG q hq).elim (F'.keep _ _) fun k => (N' q (sub q k)).1, (N q hq).2⟩
end Mine
end
theorem Mine.rs18 : True := by k_with_none; w_top off; trivial
section
open PySem PySem.W PyProof.Rows PySem.Calls PyProof.V PySem.Spec PyProof
set_option maxRecDepth 100000
set_option maxHeartbeats 8000000
namespace Mine
theorem str_snoc (y : Str) (c : Nat) : KStt.codes (y ++ ⟨#[c]⟩) = KStt.codes y ++ [(c : Int)] := by
  unfold KStt.codes
  rw [PySem.Str.cps_append]
  simp
noncomputable def Reads (y : Str) (l : List Nat) : Prop := (rd (KStt.codes y)).cps.toList = l ∧ ∀ c ∈ y.cps.toList, (b3 ⟨#[c]⟩).length ≤ 10
noncomputable def goodL : List Nat := [97, 98, 103, 107, 109, 112, 102, 105, 108, 110, 115, 116, 104, 118, 119, 122]
theorem Reads.start : Reads (Str.ofString "") [] := ⟨by decide +kernel, by decide +kernel⟩
theorem Reads.add {y : Str} {l r : List Nat} {c : Nat} (h : Reads y l) (hb : (b3 ⟨#[c]⟩).length ≤ 10) (hc : (if inB1 (c : Int) then ([] : List Nat) else (b3 ⟨#[c]⟩).cps.toList) = r) : Reads (y ++ ⟨#[c]⟩) (l ++ r) := by
  refine ⟨?_, fun d hd => ?_⟩
  · rw [str_snoc, rd_snoc]
    by_cases e : inB1 (c : Int) = true
    · rw [if_pos e] at hc ⊢
      subst hc
      rw [List.append_nil]; exact h.1
    · rw [if_neg e] at hc ⊢
      subst hc
      rw [PySem.Str.cps_append, Array.toList_append, h.1]
      rfl
  · rw [PySem.Str.cps_append, Array.toList_append] at hd
    rcases List.mem_append.mp hd with hd | hd
    · exact h.2 d hd
    · have : d = c := by simpa using hd
      rw [this]; exact hb
/-- the table's reading, in the kernel's own numbers -/
noncomputable def lkN (n : Nat) (l : List Row) : Option Str := @List.rec Row (fun _ => Option Str) none (fun r _ ih => @Bool.rec (fun _ => Option Str) ih (some r.x) (Nat.beq r.i.toNat n)) l
theorem lkN_eq {n : Nat} : ∀ {l : List Row}, (∀ r ∈ l, 0 ≤ r.i) → (l.find? fun r => r.i == (n : Int)).map (·.x) = lkN n l
  | [], _ => rfl
  | r :: l, h => by
    have h0 := h r (.head _)
    rw [List.find?_cons]
    show _ = @Bool.rec (fun _ => Option Str) (lkN n l) (some r.x) (Nat.beq r.i.toNat n)
    by_cases e : r.i = (n : Int)
    · rw [beq_iff_eq.mpr e, show Nat.beq r.i.toNat n = true from Nat.beq_eq ▸ (by omega)]
      rfl
    · rw [beq_eq_false_iff_ne.mpr e, show Nat.beq r.i.toNat n = false by rw [Bool.eq_false_iff]; intro q; exact e (by have := Nat.eq_of_beq_eq_true q; omega)]
      exact lkN_eq fun q hq => h q (.tail _ hq)
theorem rows14_nonneg : ∀ r ∈ rows14, 0 ≤ r.i := List.all_eq_true.mp (show (rows14.all fun r => decide (0 ≤ r.i)) = true by decide +kernel) |> fun h r hr => of_decide_eq_true (h r hr)
noncomputable def b3N (d : Nat) : Str := match lkN d rows14 with
  | some y => y
  | none => Txt.lower ⟨#[d]⟩
theorem b3_n (d : Nat) : b3 ⟨#[d]⟩ = b3N d := by
  unfold b3 b3N b3f
  rw [← lkN_eq rows14_nonneg]
  rfl
theorem b1P_b3N : ∀ p ∈ b1P, (b3N p.1.toNat).length ≤ 10 := by decide +kernel
theorem b1P_b3 : ∀ p ∈ b1P, (b3 ⟨#[p.1.toNat]⟩).length ≤ 10 := fun p hp => by rw [b3_n]; exact b1P_b3N p hp
theorem Reads.unseen {y z : Str} {l : List Nat} (h : Reads y l) (hz : Unseen z) : Reads (y ++ z) l := by
  obtain ⟨⟨cs⟩⟩ := z
  match cs, hz with
  | [], hz =>
    have e : y ++ ⟨([] : List Nat).toArray⟩ = y := PySem.Str.ext' (by rw [PySem.Str.cps_append]; simp)
    rw [e]; exact h
  | [c], hz =>
    have hc : inB1 (c : Int) = true := hz.2 c (by simp)
    have hb : (b3 ⟨#[c]⟩).length ≤ 10 := by
      have hc' := hc
      unfold inB1 at hc'
      rw [List.any_eq_true] at hc'
      obtain ⟨p, hp, e⟩ := hc'
      have e : p.1 = (c : Int) := beq_iff_eq.mp e
      have := b1P_b3 p hp
      rw [e] at this
      exact this
    have := Reads.add (r := []) h hb (by rw [if_pos hc])
    rw [List.append_nil] at this
    exact this
  | _ :: _ :: _, hz => exact absurd hz.1 (by simp [Str.length])
theorem joined_reads : ∀ p ∈ joinedL, 0 ≤ p.2 ∧ p.2 ≤ 1114111 ∧ (b3 ⟨#[p.2.toNat]⟩).length ≤ 10 ∧ (if inB1 (p.2.toNat : Int) then ([] : List Nat) else (b3 ⟨#[p.2.toNat]⟩).cps.toList) = p.1.cps.toList := by decide +kernel
theorem kdp_mem {z : Str} : ∀ {c : List (Str × Int)}, kdpHas c z = true → (z, kdpLook c z 0) ∈ c
  | [], h => by cases h
  | p :: c, h => by
    unfold kdpLook
    rw [List.find?_cons]
    by_cases e : p.1 = z
    · rw [decide_eq_true e]
      subst e; exact .head _
    · rw [decide_eq_false e]
      refine .tail _ (kdp_mem ?_)
      unfold kdpHas at h ⊢
      rw [List.any_cons, decide_eq_false e, Bool.false_or] at h
      exact h
theorem joined_range {z : Str} (hk : kdpHas joinedL z = true) : 0 ≤ kdpLook joinedL z 0 ∧ kdpLook joinedL z 0 ≤ 1114111 := let h := joined_reads _ (kdp_mem hk); ⟨h.1, h.2.1⟩
theorem Reads.join {y z : Str} {l : List Nat} (h : Reads y l) (hk : kdpHas joinedL z = true) : Reads (y ++ ⟨#[(kdpLook joinedL z 0).toNat]⟩) (l ++ z.cps.toList) :=
  let k := joined_reads _ (kdp_mem hk); h.add k.2.2.1 k.2.2.2
noncomputable def formsOf (c : Nat) : List Nat := c :: ((c : Int) - 32).toNat :: (List.range 10).map fun k => (119711 + 52 * ([0, 1, 2, 4, 7, 8, 9, 10, 11, 12] : List Int).getD k 0 + (c : Int)).toNat
theorem letters_readN : ∀ c ∈ goodL, ∀ d ∈ formsOf c, (b3N d).length ≤ 10 ∧ (if inB1 (d : Int) then ([] : List Nat) else (b3N d).cps.toList) = [c] := by decide +kernel
theorem letters_read : ∀ c ∈ goodL, ∀ d ∈ formsOf c, (b3 ⟨#[d]⟩).length ≤ 10 ∧ (if inB1 (d : Int) then ([] : List Nat) else (b3 ⟨#[d]⟩).cps.toList) = [c] := fun c hc d hd => by rw [b3_n]; exact letters_readN c hc d hd
theorem Reads.letter {y z : Str} {l : List Nat} {c : Nat} (h : Reads y l) (hc : c ∈ goodL) (ht : Typed ⟨#[c]⟩ z) : Reads (y ++ z) (l ++ [c]) := by
  have hz : ∃ d ∈ formsOf c, z = ⟨#[d]⟩ := by
    rcases ht with e | e | ⟨k, hk, e⟩
    · exact ⟨c, .head _, e⟩
    · exact ⟨_, .tail _ (.head _), e⟩
    · exact ⟨_, .tail _ (.tail _ (List.mem_map.mpr ⟨k, List.mem_range.mpr hk, rfl⟩)), e⟩
  obtain ⟨d, hd, rfl⟩ := hz
  have := letters_read c hc d hd
  exact h.add this.1 this.2
/-- a piece of the plain row, from a place on -/
noncomputable def Part (x : Str) (p : Int) (y : Str) : Prop := ∃ k, 1 ≤ k ∧ y.cps.toList = (x.cps.toList.drop p.toNat).take k
theorem part_item {x : Str} {p : Int} (h0 : 0 ≤ p) (h1 : p < x.length) : Part x p (Txt.item x p) := by
  refine ⟨1, Nat.le_refl _, ?_⟩
  rw [PySem.W.item_meets ⟨h0, h1⟩]
  have hp : p.toNat < x.cps.toList.length := by
    have : x.length = x.cps.toList.length := by simp [Str.length]
    omega
  rw [List.drop_eq_getElem_cons hp]
  simp [Array.getD_eq_getD_getElem?]
  have hp' : p.toNat < x.cps.size := by simpa using hp
  rw [Array.getElem?_eq_getElem hp']; rfl
theorem slice_clip {x : Str} {i j : Int} (hj : x.length ≤ j) : Txt.slice x (some i) (some j) = Txt.slice x (some i) (some x.length) := by
  have e : Builtin.Str.strSliceIndices (some i) (some j) 1 x.length = Builtin.Str.strSliceIndices (some i) (some x.length) 1 x.length := by
    unfold Builtin.Str.strSliceIndices
    have h1 : ¬ j < 0 := by omega
    have h2 : ¬ ((x.length : Nat) : Int) < 0 := by omega
    have e1 : max 0 (min j (x.length : Int)) = max 0 (min (x.length : Int) x.length) := by omega
    simp only [show (1 : Int) > 0 by decide, if_true, h1, h2, if_false, e1]
  unfold Txt.slice
  rw [e]
theorem part_slice {x : Str} {p k : Int} (h0 : 0 ≤ p) (h1 : p < x.length) (hk : 1 ≤ k) : Part x p (Txt.slice x (some p) (some (p + k))) := by
  have hl : x.length = x.cps.toList.length := by simp [Str.length]
  refine ⟨k.toNat, by omega, ?_⟩
  by_cases h : p + k ≤ x.length
  · have := slice_closesL (x := x) h0 (by omega : p ≤ p + k) h
    rw [beq_iff_eq.mp this]
    have e : (p + k - p).toNat = k.toNat := by omega
    rw [e]
  · rw [slice_clip (by omega)]
    have := slice_closesL (x := x) (j := x.length) h0 (by omega) (Int.le_refl _)
    rw [beq_iff_eq.mp this]
    show ((x.cps.toList.drop p.toNat).take ((x.length : Int) - p).toNat) = _
    rw [List.take_of_length_le (by rw [List.length_drop]; omega), List.take_of_length_le (by rw [List.length_drop]; omega)]
theorem Part.len {x y : Str} {p : Int} (h0 : 0 ≤ p) (h1 : p < x.length) (h : Part x p y) : 1 ≤ y.length ∧ p + y.length ≤ x.length ∧ x.cps.toList.take (p + y.length).toNat = x.cps.toList.take p.toNat ++ y.cps.toList := by
  obtain ⟨k, hk, e⟩ := h
  have hl : x.length = x.cps.toList.length := by simp [Str.length]
  have hy : y.length = min k (x.cps.toList.length - p.toNat) := by
    have : y.length = y.cps.toList.length := by simp [Str.length]
    rw [this, e, List.length_take, List.length_drop]
  refine ⟨by omega, by omega, ?_⟩
  have e2 : (p + (y.length : Int)).toNat = p.toNat + y.length := by omega
  rw [e2, List.take_add, e, hy]
  congr 1
  rcases Nat.le_total k (x.cps.toList.length - p.toNat) with h | h
  · rw [Nat.min_eq_left h]
  · rw [Nat.min_eq_right h, List.take_of_length_le (by rw [List.length_drop]; omega), List.take_of_length_le (by rw [List.length_drop]; omega)]
end Mine
end
theorem Mine.rs19 : True := by k_with_none; w_top off; trivial
section
open PySem PySem.W PyProof.Rows PySem.Calls PyProof.V PySem.Spec
set_option maxRecDepth 100000
set_option maxHeartbeats 8000000
namespace Mine
theorem fillCtT : (fun (_ : OpenLaw) (_ : Params → Frag) => True) PySem.Challenge.rw_wo0061_01 KK := by
  k_fill
  trivial

/-- a frame of which some names are known -/
noncomputable def pinned (l : List (Str × Value)) (u : Str → Option Value) : Str → Option Value := fun y => match l.lookup y with | some v => some v | none => u y
noncomputable def TJ (x : Str) (tx : Tok) (l dj : Addr) (m : Str → Option Value) (p : Int) (text : Str) : Prop :=
  0 ≤ p ∧ p ≤ 6 ∧ Reads text (x.cps.toList.take p.toNat) ∧ (text.length : Int) ≤ 2 * p ∧ (∃ t, m (Str.ofString "text") = some (.str text t)) ∧ (∃ t, m (Str.ofString "place") = some (.int p t)) ∧
    m (Str.ofString "plain") = some (.str x tx) ∧ m (Str.ofString "drawn") = some (.ref l) ∧ m (Str.ofString "joined") = some (.ref dj)
noncomputable def TEnd (h₀ : Heap) (L : Addr) (s : Shared) (x : Str) (tx : Tok) (l dj : Addr) (news : List (Addr × Obj)) (p : Int) (s₂ : Shared) : Prop :=
  ∃ h' tk m' news' p' text, s₂ = { s with heap := h', toks := tk } ∧ Fr h₀ L h' m' ∧ News h₀ L h' news' ∧ (∀ q ∈ news, q ∈ news') ∧ p < p' ∧ TJ x tx l dj m' p' text
noncomputable def TPost (h₀ : Heap) (L : Addr) (s : Shared) (x : Str) (tx : Tok) (l dj : Addr) (news : List (Addr × Obj)) (p : Int) (Q : Flow → Shared → Prop) (f : Flow) (s₂ : Shared) : Prop :=
  match f with
  | .ret v => Q (.ret v) s₂
  | .brk => Q .next s₂
  | _ => TEnd h₀ L s x tx l dj news p s₂
theorem typed_while {prog : Program} {w : World} {A : Around} {E : Value → Shared → Prop} {Q : Flow → Shared → Prop} {s : Shared} {env : Env} {h₀ : Heap} {L : Addr} {test : PySem.Expr} {body : List Stmt} {pos : Pos} {m₀ : Str → Option Value} {news : List (Addr × Obj)} (x : Str) (tx : Tok) (l dj : Addr) {t₀ t₁ : Tok}
    (F : Fr h₀ L s.heap m₀) (N : News h₀ L s.heap news) (ht : m₀ (Str.ofString "text") = some (.str (Str.ofString "") t₀)) (hp : m₀ (Str.ofString "place") = some (.int 0 t₁))
    (g1 : m₀ (Str.ofString "plain") = some (.str x tx)) (g2 : m₀ (Str.ofString "drawn") = some (.ref l)) (g3 : m₀ (Str.ofString "joined") = some (.ref dj))
    (turn : ∀ (p : Int) text t tp (u : Str → Option Value) h tk, 0 ≤ p → p ≤ 6 → Reads text (x.cps.toList.take p.toNat) → (text.length : Int) ≤ 2 * p →
      Fr h₀ L h (fun y => if y = Str.ofString "text" then some (.str text t) else if y = Str.ofString "place" then some (.int p tp) else if y = Str.ofString "plain" then some (.str x tx) else if y = Str.ofString "drawn" then some (.ref l) else if y = Str.ofString "joined" then some (.ref dj) else u y) → News h₀ L h news →
      wpAny (model prog w) A (isTrue test env (eval test env)) (fun b s₂ =>
        if b = true then wpAny (model prog w) A (execs body env) (TPost h₀ L s x tx l dj news p Q) E s₂ else Q .next s₂) E { s with heap := h, toks := tk })
    (hE : PassesOwn (model prog w) A env E := by passes_own) :
    wpAny (model prog w) A (exec (.While test body [] pos) env) Q E s := by
  refine While_inv2 (fun n m nx => nx = news ∧ ∃ p text, n = (6 - p).toNat ∧ TJ x tx l dj m p text) F N ⟨rfl, 0, Str.ofString "", rfl, by decide, by decide, Reads.start, by decide +kernel, ⟨_, ht⟩, ⟨_, hp⟩, g1, g2, g3⟩ ?_ hE
  rintro n m₁ nx h tk F₁ N₁ ⟨hnx, p, text, hsz, hp0, hp6, hR, hlen, ⟨t, hv⟩, ⟨tp, ha⟩, g1, g2, g3⟩
  rw [hnx] at N₁
  have e : (fun y => if y = Str.ofString "text" then some (.str text t) else if y = Str.ofString "place" then some (.int p tp) else if y = Str.ofString "plain" then some (.str x tx) else if y = Str.ofString "drawn" then some (.ref l) else if y = Str.ofString "joined" then some (.ref dj) else m₁ y) = m₁ := by
    funext y
    by_cases h1 : y = Str.ofString "text"
    · subst h1; simp [hv]
    · rw [if_neg h1]
      by_cases h2 : y = Str.ofString "place"
      · subst h2; simp [ha]
      · rw [if_neg h2]
        by_cases h3 : y = Str.ofString "plain"
        · subst h3; simp [g1]
        · rw [if_neg h3]
          by_cases h4 : y = Str.ofString "drawn"
          · subst h4; simp [g2]
          · rw [if_neg h4]
            by_cases h5 : y = Str.ofString "joined"
            · subst h5; simp [g3]
            · rw [if_neg h5]
  refine wpAny_mono (turn p text t tp m₁ h tk hp0 hp6 hR hlen (by rw [e]; exact F₁) N₁) (fun b s₂ p => ?_) fun _ _ x => x
  cases b with
  | false => simpa using p
  | true =>
    simp only [if_true] at p ⊢
    refine wpAny_mono p (fun f s₃ q => ?_) fun _ _ x => x
    cases f with
    | ret v => exact q
    | brk => exact q
    | next =>
      obtain ⟨h', tk', m', news', p', text', rfl, F', N', hn, hlt, hJ⟩ := q
      exact ⟨h', tk', m', news, (6 - p').toNat, rfl, F', fun p hp => N' p (hn p hp), by have := hJ.2.1; omega, rfl, p', text', rfl, hJ⟩
    | cont =>
      obtain ⟨h', tk', m', news', p', text', rfl, F', N', hn, hlt, hJ⟩ := q
      exact ⟨h', tk', m', news, (6 - p').toNat, rfl, F', fun p hp => N' p (hn p hp), by have := hJ.2.1; omega, rfl, p', text', rfl, hJ⟩
theorem len_one (n : Nat) : (⟨#[n]⟩ : Str).length = 1 := rfl
theorem TEnd.intro {h₀ h' : Heap} {L : Addr} {s : Shared} {x : Str} {tx : Tok} {l dj : Addr} {m' : Str → Option Value} {news news' : List (Addr × Obj)} {p : Int} {tk : Nat} {y text : Str} {t t2 : Tok}
    (F : Fr h₀ L h' m') (N : News h₀ L h' news') (hn : ∀ q ∈ news, q ∈ news') (hv : m' (Str.ofString "text") = some (.str text t)) (ha : m' (Str.ofString "place") = some (.int (p + (y.length : Nat)) t2))
    (g1 : m' (Str.ofString "plain") = some (.str x tx)) (g2 : m' (Str.ofString "drawn") = some (.ref l)) (g3 : m' (Str.ofString "joined") = some (.ref dj))
    (hx : x.length = 6) (hp0 : 0 ≤ p) (hp6 : p < 6) (hP : Part x p y) (hR : Reads text (x.cps.toList.take p.toNat ++ y.cps.toList)) (hl : (text.length : Int) ≤ 2 * p + 2) :
    TEnd h₀ L s x tx l dj news p { s with heap := h', toks := tk } := by
  have k := Part.len hp0 (by rw [hx]; exact hp6) hP
  rw [hx] at k
  refine ⟨h', tk, m', news', p + (y.length : Nat), text, rfl, F, N, hn, by omega, by omega, by omega, ?_, by omega, ⟨_, hv⟩, ⟨_, ha⟩, g1, g2, g3⟩
  rw [k.2.2]; exact hR
theorem letter_of {x : Str} {p : Int} (hx : x.length = 6) (hg : ∀ c ∈ x.cps.toList, c ∈ goodL) (h0 : 0 ≤ p) (h6 : p < 6) : ∃ c, Txt.item x p = ⟨#[c]⟩ ∧ c ∈ goodL := by
  refine ⟨_, PySem.W.item_meets ⟨h0, by rw [hx]; exact h6⟩, hg _ ?_⟩
  have : p.toNat < x.cps.size := by
    have : x.cps.size = 6 := hx
    omega
  rw [Array.getD_eq_getD_getElem?, Array.getElem?_eq_getElem this]
  simp
theorem good_lo {c : Nat} (h : c ∈ goodL) : 97 ≤ c ∧ c ≤ 122 := by
  have : ∀ c ∈ goodL, 97 ≤ c ∧ c ≤ 122 := by decide
  exact this c h
theorem let_lo {x : Str} {p : Int} (hx : x.length = 6) (hg : ∀ c ∈ x.cps.toList, c ∈ goodL) (h0 : 0 ≤ p) (h6 : p < 6) : 97 ≤ (Txt.item x p).cps.getD 0 0 := by
  obtain ⟨c, e, hc⟩ := letter_of hx hg h0 h6
  rw [e]; exact (good_lo hc).1
theorem let_hi {x : Str} {p : Int} (hx : x.length = 6) (hg : ∀ c ∈ x.cps.toList, c ∈ goodL) (h0 : 0 ≤ p) (h6 : p < 6) : (Txt.item x p).cps.getD 0 0 ≤ 122 := by
  obtain ⟨c, e, hc⟩ := letter_of hx hg h0 h6
  rw [e]; exact (good_lo hc).2
theorem Reads.letterT {x y z : Str} {p : Int} {l : List Nat} (h : Reads y l) (hx : x.length = 6) (hg : ∀ c ∈ x.cps.toList, c ∈ goodL) (h0 : 0 ≤ p) (h6 : p < 6) (ht : Typed (Txt.item x p) z) : Reads (y ++ z) (l ++ (Txt.item x p).cps.toList) := by
  obtain ⟨c, e, hc⟩ := letter_of hx hg h0 h6
  rw [e] at ht ⊢
  exact h.letter hc ht
theorem Typed.len {x z : Str} (h : Typed x z) (hx : x.length = 1) : z.length = 1 := by
  rcases h with rfl | rfl | ⟨k, _, rfl⟩
  · exact hx
  · rfl
  · rfl

theorem typed_ct {w : World} {mean : ExcName → Option Value} {mg mb : Str → Option Value} {ls : List Str} {news : List (Addr × Obj)} {dp un : Nat} {gd : Option (List Code)} {cn : Str} {cs : Scope} {a : Addr} {ccd : Value} {cl : List (Str × Addr)} {outer : List Env} {A₀ : Around} {base h₀ : Heap} {L : Addr} {m : Str → Option Value} {s : Shared} {Q E : Value → Shared → Prop} {x : Str} {tx : Tok} {l : Addr} {d0 d1 d2 d3 d4 d5 : Int} {t0 t1 t2 t3 t4 t5 : Tok}
    (k1 : Below A₀ base outer h₀) (k2 : Fr h₀ L s.heap m) (k3 : (KK w.params).In h₀) (k4 : News h₀ L s.heap news) (k5 : Top vw ls mean mg mb h₀) (kK : cs.kind = .function) (kd : dp + 10 < recursionLimit) (ku : un + 100 < cLine)
    (hx : x.length = 6) (hg : ∀ c ∈ x.cps.toList, c ∈ goodL) (hl : (l, W.listOf #[.int d0 t0, .int d1 t1, .int d2 t2, .int d3 t3, .int d4 t4, .int d5 t5] 0) ∈ news)
    (ret : ∀ (y : Str) (t : Tok) (h' : Heap) (tk' : Nat), Reads y x.cps.toList → y.length ≤ 12 → Fr h₀ L h' m → News h₀ L h' news → Q (.str y t) { s with heap := h', toks := tk' }) :
    wpAny (model P w) (ktrTop dp un gd cn cs L a ccd cl outer) (call (.ref 153) [.str x tx, .ref l]) Q E s := by
  k_with_none
  (k_with "eval Dict" => (k_here; k_dflt (refine' joined_made ?k1 ?k2 ?k3 ?k4 ?k5 ?k6 ?_; (case k1 => k_asm); (case k2 => k_asm); (case k3 => k_asm); (case k4 => kernel_rfl); (case k5 => kernel_rfl); (case k6 => kernel_rfl); k_whole); intro d'zz o'zz kvs'zz h'zz tk'zz F'zz N'zz lo'zz hd'zz hf'zz; (try k_sweep); (try dsimp only); (try k_fold)))
  (k_with "TPost" => (dsimp only [TPost]))
  (k_with "call builtin:chr" => (k_here; k_dflt (refine' chr_of_range ?a ?b ?_; (case a => exact (joined_range (by assumption)).1); (case b => exact (joined_range (by assumption)).2); k_whole)))
  (k_with "binaryOp Add str str" => (k_here; (with_reducible show wpAny _ _ (binaryOp Operator.Add (Value.str _ _) (Value.str _ _)) _ _ _); (refine' KXadd.add (K := 1000) (L := 1000) ?kxaa ?kxab (Nat.le_of_ble_eq_true rfl) ?_; (case kxaa => first | omega | (simp only [PySem.Str.length_append]; omega)); (case kxab => first | omega | (show 1 ≤ 1000; omega))); intro _ _ _))
  (k_with "TEnd" => (refine TEnd.intro (by assumption) (by assumption) (by k_sub) (by with_unfolding_all rfl) (by with_unfolding_all rfl) (by with_unfolding_all rfl) (by with_unfolding_all rfl) (by with_unfolding_all rfl) (by assumption) (by assumption) (by assumption) ?_ ?_ ?_; (first | exact part_item (by assumption) (by omega) | exact part_slice (by assumption) (by omega) (by decide)); (first | exact (Reads.unseen (by assumption) (by assumption)).join (by assumption) | exact (Reads.unseen (by assumption) (by assumption)).letterT (by assumption) (by assumption) (by assumption) (by assumption) (by assumption)); (first | omega | (simp only [PySem.Str.length_append, len_one]; omega))))
  (k_with "call ref" => (k_here; k_dflt (refine' unseen_ct ?k1 ?k2 ?k3 ?k4 ?k5 ?kK ?kd ?ku ?hi0 ?hi1 ?_; (case k1 => k_asm); (case k2 => k_asm); (case k3 => k_asm); (case k4 => k_asm); (case k5 => k_asm); (case kK => first | exact rfl | assumption); (case kd => ktr_room); (case ku => ktr_units); (case hi0 => first | omega | exact Int.fmod_nonneg_of_pos _ (by decide) | exact Int.fmod_lt_of_pos _ (by decide)); (case hi1 => first | omega | exact Int.fmod_nonneg_of_pos _ (by decide) | exact Int.fmod_lt_of_pos _ (by decide)); k_whole); intro y'zz t'zz h'zz tk'zz hy'zz F'zz N'zz; have hyLzz := hy'zz.1; (try k_sweep); (try dsimp only); (try k_fold)))
  (k_with "call ref" => (k_here; k_dflt (refine' letter_ct ?k1 ?k2 ?k3 ?k4 ?k5 ?kK ?kd ?ku ?hx ?hlo ?hhi ?hi0 ?hi1 ?_; (case k1 => k_asm); (case k2 => k_asm); (case k3 => k_asm); (case k4 => k_asm); (case k5 => k_asm); (case kK => first | exact rfl | assumption); (case kd => ktr_room); (case ku => ktr_units); (case hx => exact rfl); (case hlo => exact let_lo (by assumption) (by assumption) (by assumption) (by assumption)); (case hhi => exact let_hi (by assumption) (by assumption) (by assumption) (by assumption)); (case hi0 => first | omega | exact Int.fmod_nonneg_of_pos _ (by decide) | exact Int.fmod_lt_of_pos _ (by decide)); (case hi1 => first | omega | exact Int.fmod_nonneg_of_pos _ (by decide) | exact Int.fmod_lt_of_pos _ (by decide)); k_whole); intro y'zz t'zz h'zz tk'zz hy'zz F'zz N'zz; have hyLzz := Typed.len hy'zz rfl; (try k_sweep); (try dsimp only); (try k_fold)))
  refine wpAny_call ?_
  k_dflt (refine' code_own [(l, W.listOf #[.int d0 t0, .int d1 t1, .int d2 t2, .int d3 t3, .int d4 t4, .int d5 t5] 0)] ?kO ?k1 ?k2 ?k3 ?k4 ?k5 ?kA ?kF ?kK ?k6 ?k7 ?k8 ?k9 ?kB ?_ ?c2 ?c3 ?c4 ?c5; (case kO => intro q hq; rw [List.mem_singleton.mp hq]; exact hl); (case kA => exact rfl); (case kF => exact rfl); (case kK => assumption); (case k1 => k_asm); (case k2 => k_asm); (case k3 => k_asm); (case k4 => k_asm); (case k5 => k_asm); (case k6 => k_is); (case k7 => k_is); (case k8 => ktr_room); (case k9 => exact BindsTo.of_eq rfl); (case c5 => decide); (case kB => exact locs rfl); (case c2 => exact rfl); (case c3 => exact rfl); (case c4 => exact rfl); k_whole; intro g' L' h' hG' FG' F' N' B' X' T'; (try dsimp only); (try k_lift B'); (try k_fold))
  (k_with "exec While Compare cons nil" => ((rename Fr _ _ _ _ => lF'); (rename News _ _ _ _ => lN'); (with_unfolding_all refine' typed_while x tx l _ lF' lN' (by rfl) (by rfl) (by rfl) (by rfl) (by rfl) (fun p' text' t' tp' u' h' tk' hp0' hp6' hR' hl' F' N' => ?_)); clear lF' lN'))
  k_steps
  have hp6 : p' = 6 := by omega
  rename Reads _ _ => hRd
  subst hp6
  rw [List.take_of_length_le (by have : x.cps.toList.length = 6 := by simpa [Str.length] using hx
                                 omega)] at hRd
  exact ret _ _ _ _ hRd (by omega) (by assumption) (tail_back k4 (by assumption) (by assumption) (by assumption) (fun q hq => by rw [List.mem_singleton.mp hq]; simp))


end Mine
end
theorem Mine.rs20 : True := by k_with_none; w_top off; trivial
section
open PySem PySem.W PyProof.Rows PySem.Calls PyProof.V PySem.Spec
set_option maxRecDepth 100000
set_option maxHeartbeats 8000000
namespace Mine
theorem fillCtO : (fun (_ : OpenLaw) (_ : Params → Frag) => True) PySem.Challenge.rw_wo0061_01 KK := by
  k_fill
  trivial

section
variable {prog : Program} {w : World} {A : Around} {E : Value → Shared → Prop} {s : Shared} {h₀ : Heap} {L D : Addr} {m : Str → Option Value} {news news' : List (Addr × Obj)} {n : Nat}
theorem ints_erase {us : List Value} {l : List Int} (hi : IntsAre us l) : ∀ k, IntsAre (us.eraseIdx k) (l.eraseIdx k) := by
  induction hi with
  | nil => intro k; exact .nil
  | cons i t r ih =>
    intro k
    cases k with
    | zero => exact r
    | succ k => exact .cons i t (ih k)
theorem ints_at {us : List Value} {l : List Int} (hi : IntsAre us l) : ∀ k, k < l.length → ∃ t, us[k]? = some (.int (l.getD k 0) t) := by
  induction hi with
  | nil => intro k h; exact absurd h (Nat.not_lt_zero k)
  | cons i t r ih =>
    intro k h
    cases k with
    | zero => exact ⟨t, rfl⟩
    | succ k => exact ih k (Nat.lt_of_succ_lt_succ h)
theorem cut_at : ∀ (us : List Value) (k : Nat) (y : Value), us[k]? = some y → ∃ p q, kl_cut us k = some (p, y, q) ∧ p ++ q = us.eraseIdx k
  | [], _, _, h => by simp at h
  | x :: us, 0, y, h => by
    have : x = y := by simpa using h
    subst this
    exact ⟨[], us, rfl, rfl⟩
  | x :: us, k + 1, y, h => by
    obtain ⟨p, q, e, f⟩ := cut_at us k y (by simpa using h)
    refine ⟨x :: p, q, ?_, by rw [List.cons_append, f]; rfl⟩
    unfold kl_cut
    simp only [e]
    try rfl
theorem pop_any {i : Int} {u : Tok} {us : List Value} {l : List Int} {c : Nat} {Q : Value → Shared → Prop} (F : Fr h₀ L s.heap m) (N : News h₀ L s.heap news) (U : Upd D (listOf us.toArray n) (listOf (us.eraseIdx i.toNat).toArray (n + 1)) news news') (hi : IntsAre us l) (hc : l.length = c)
    (h0 : 0 ≤ i) (h1 : i < c) (hz : c ≤ 100) (h : ∀ h' t l', l' = l.eraseIdx i.toNat → l'.length + 1 = c → Fr h₀ L h' m → News h₀ L h' news' → IntsAre (us.eraseIdx i.toNat) l' → Q (.int (l.getD i.toNat 0) t) { s with heap := h' }) : wpAny (model prog w) A (call (.builtin "list.pop") [.ref D, .int i u]) Q E s := by
  have hk : i.toNat < l.length := by omega
  obtain ⟨t, hy⟩ := ints_at hi i.toNat hk
  obtain ⟨p, q, e, f⟩ := cut_at us i.toNat _ hy
  have hl := IntsAre.length hi
  rw [← f] at U h
  refine kl_popAt F N (k := i.toNat) (p := p) (q := q) (y := .int (l.getD i.toNat 0) t) ?_ ?_ (by simpa using e) U ?_ fun h' F' N' => h h' t _ rfl ?_ F' N' ?_
  · unfold Builtin.List.listFitsIndex
    first
      | (simp; omega)
      | (simp only [decide_eq_true_eq, Bool.and_eq_true]; omega)
  · unfold seqIndex?
    rw [List.size_toArray]
    simp
    omega
  · rw [PySem.sizeLine_eq]; simp; omega
  · rw [List.length_eraseIdx_of_lt hk]; omega
  · rw [f]; exact ints_erase hi _
end

noncomputable def popAll : List Int → List Nat → List Int
  | l, i :: is => l.getD i 0 :: popAll (l.eraseIdx i) is
  | _, [] => []
/-- an order of the six places, as the pool gives it -/
noncomputable def IsOrder (o : List Int) : Prop := ∃ i0 i1 i2 i3 i4 i5 : Nat, i0 < 6 ∧ i1 < 5 ∧ i2 < 4 ∧ i3 < 3 ∧ i4 < 2 ∧ i5 < 1 ∧ o = popAll [0, 1, 2, 3, 4, 5] [i0, i1, i2, i3, i4, i5]
theorem isOrder_of {i0 i1 i2 i3 i4 i5 : Nat} {l1 l2 l3 l4 l5 : List Int} (e1 : l1 = [0, 1, 2, 3, 4, 5].eraseIdx i0) (e2 : l2 = l1.eraseIdx i1) (e3 : l3 = l2.eraseIdx i2) (e4 : l4 = l3.eraseIdx i3) (e5 : l5 = l4.eraseIdx i4)
    (b0 : i0 < 6) (b1 : i1 < 5) (b2 : i2 < 4) (b3 : i3 < 3) (b4 : i4 < 2) (b5 : i5 < 1) : IsOrder [[0, 1, 2, 3, 4, 5].getD i0 0, l1.getD i1 0, l2.getD i2 0, l3.getD i3 0, l4.getD i4 0, l5.getD i5 0] := by
  subst e1 e2 e3 e4 e5
  exact ⟨i0, i1, i2, i3, i4, i5, b0, b1, b2, b3, b4, b5, rfl⟩
theorem fm_lt (a : Int) {b : Int} {c : Nat} (hb : 0 < b) (hc : b ≤ c) : (a.fmod b).toNat < c := by
  have h1 := Int.fmod_nonneg_of_pos a hb
  have h2 := Int.fmod_lt_of_pos a hb
  omega
theorem order_end {h₀ h' : Heap} {L ad : Addr} {m : Str → Option Value} {news led : List (Addr × Obj)} {s : Shared} {Q : Value → Shared → Prop} {tk' n : Nat} {o0 o1 o2 o3 o4 o5 : Int} {u0 u1 u2 u3 u4 u5 : Tok} {A : Array Value}
    (ret : ∀ (ad : Addr) (o0 o1 o2 o3 o4 o5 : Int) (u0 u1 u2 u3 u4 u5 : Tok) (n : Nat) (h' : Heap) (tk' : Nat), IsOrder [o0, o1, o2, o3, o4, o5] → Fr h₀ L h' m → News h₀ L h' ((ad, W.listOf #[.int o0 u0, .int o1 u1, .int o2 u2, .int o3 u3, .int o4 u4, .int o5 u5] n) :: news) → Q (.ref ad) { s with heap := h', toks := tk' })
    (F : Fr h₀ L h' m) (N : News h₀ L h' led) (hm : (ad, W.listOf A n) ∈ led) (hA : A = (((((#[].push (.int o0 u0)).push (.int o1 u1)).push (.int o2 u2)).push (.int o3 u3)).push (.int o4 u4)).push (.int o5 u5)) (hb : News h₀ L h' news) (hO : IsOrder [o0, o1, o2, o3, o4, o5]) :
    Q (.ref ad) { s with heap := h', toks := tk' } := by
  subst hA
  refine ret ad o0 o1 o2 o3 o4 o5 u0 u1 u2 u3 u4 u5 n h' tk' hO F fun q hq => ?_
  rcases List.mem_cons.mp hq with rfl | hq
  · exact N _ hm
  · exact hb q hq

theorem order_ct {w : World} {mean : ExcName → Option Value} {mg mb : Str → Option Value} {ls : List Str} {news : List (Addr × Obj)} {dp un : Nat} {gd : Option (List Code)} {cn : Str} {cs : Scope} {a : Addr} {ccd : Value} {cl : List (Str × Addr)} {outer : List Env} {A₀ : Around} {base h₀ : Heap} {L : Addr} {m : Str → Option Value} {s : Shared} {Q E : Value → Shared → Prop} {l : Addr} {ln : Nat} {d0 d1 d2 d3 d4 d5 : Int} {t0 t1 t2 t3 t4 t5 : Tok}
    (k1 : Below A₀ base outer h₀) (k2 : Fr h₀ L s.heap m) (k3 : (KK w.params).In h₀) (k4 : News h₀ L s.heap news) (k5 : Top vw ls mean mg mb h₀) (kK : cs.kind = .function) (kd : dp + 10 < recursionLimit) (ku : un + 100 < cLine)
    (hl : (l, W.listOf #[.int d0 t0, .int d1 t1, .int d2 t2, .int d3 t3, .int d4 t4, .int d5 t5] ln) ∈ news)
    (ret : ∀ (ad : Addr) (o0 o1 o2 o3 o4 o5 : Int) (u0 u1 u2 u3 u4 u5 : Tok) (n : Nat) (h' : Heap) (tk' : Nat), IsOrder [o0, o1, o2, o3, o4, o5] → Fr h₀ L h' m → News h₀ L h' ((ad, W.listOf #[.int o0 u0, .int o1 u1, .int o2 u2, .int o3 u3, .int o4 u4, .int o5 u5] n) :: news) → Q (.ref ad) { s with heap := h', toks := tk' }) :
    wpAny (model P w) (ktrTop dp un gd cn cs L a ccd cl outer) (call (.ref 132) [.ref l]) Q E s := by
  k_with_none
  (k_with "call builtin:list.pop" => (k_here; (with_reducible show wpAny _ _ (call (Value.builtin _) [Value.ref _, Value.int _ _]) _ _ _); k_dflt (first | (refine' pop_any (c := 6) ?F ?N ?U ?i ?c ?l0 ?l1 ?z ?_; (case F => k_asm); (case N => k_asm); (case U => k_upd); (case i => first | assumption | exact IntsAre.cons _ _ (IntsAre.cons _ _ (IntsAre.cons _ _ (IntsAre.cons _ _ (IntsAre.cons _ _ (IntsAre.cons _ _ .nil)))))); (case c => first | exact rfl | omega); (case l0 => exact Int.fmod_nonneg_of_pos _ (by decide)); (case l1 => exact Int.lt_of_lt_of_le (Int.fmod_lt_of_pos _ (by decide)) (by decide)); (case z => decide)) | (refine' pop_any (c := 5) ?F ?N ?U ?i ?c ?l0 ?l1 ?z ?_; (case F => k_asm); (case N => k_asm); (case U => k_upd); (case i => first | assumption | exact IntsAre.cons _ _ (IntsAre.cons _ _ (IntsAre.cons _ _ (IntsAre.cons _ _ (IntsAre.cons _ _ (IntsAre.cons _ _ .nil)))))); (case c => first | exact rfl | omega); (case l0 => exact Int.fmod_nonneg_of_pos _ (by decide)); (case l1 => exact Int.lt_of_lt_of_le (Int.fmod_lt_of_pos _ (by decide)) (by decide)); (case z => decide)) | (refine' pop_any (c := 4) ?F ?N ?U ?i ?c ?l0 ?l1 ?z ?_; (case F => k_asm); (case N => k_asm); (case U => k_upd); (case i => first | assumption | exact IntsAre.cons _ _ (IntsAre.cons _ _ (IntsAre.cons _ _ (IntsAre.cons _ _ (IntsAre.cons _ _ (IntsAre.cons _ _ .nil)))))); (case c => first | exact rfl | omega); (case l0 => exact Int.fmod_nonneg_of_pos _ (by decide)); (case l1 => exact Int.lt_of_lt_of_le (Int.fmod_lt_of_pos _ (by decide)) (by decide)); (case z => decide)) | (refine' pop_any (c := 3) ?F ?N ?U ?i ?c ?l0 ?l1 ?z ?_; (case F => k_asm); (case N => k_asm); (case U => k_upd); (case i => first | assumption | exact IntsAre.cons _ _ (IntsAre.cons _ _ (IntsAre.cons _ _ (IntsAre.cons _ _ (IntsAre.cons _ _ (IntsAre.cons _ _ .nil)))))); (case c => first | exact rfl | omega); (case l0 => exact Int.fmod_nonneg_of_pos _ (by decide)); (case l1 => exact Int.lt_of_lt_of_le (Int.fmod_lt_of_pos _ (by decide)) (by decide)); (case z => decide)) | (refine' pop_any (c := 2) ?F ?N ?U ?i ?c ?l0 ?l1 ?z ?_; (case F => k_asm); (case N => k_asm); (case U => k_upd); (case i => first | assumption | exact IntsAre.cons _ _ (IntsAre.cons _ _ (IntsAre.cons _ _ (IntsAre.cons _ _ (IntsAre.cons _ _ (IntsAre.cons _ _ .nil)))))); (case c => first | exact rfl | omega); (case l0 => exact Int.fmod_nonneg_of_pos _ (by decide)); (case l1 => exact Int.lt_of_lt_of_le (Int.fmod_lt_of_pos _ (by decide)) (by decide)); (case z => decide)) | (refine' pop_any (c := 1) ?F ?N ?U ?i ?c ?l0 ?l1 ?z ?_; (case F => k_asm); (case N => k_asm); (case U => k_upd); (case i => first | assumption | exact IntsAre.cons _ _ (IntsAre.cons _ _ (IntsAre.cons _ _ (IntsAre.cons _ _ (IntsAre.cons _ _ (IntsAre.cons _ _ .nil)))))); (case c => first | exact rfl | omega); (case l0 => exact Int.fmod_nonneg_of_pos _ (by decide)); (case l1 => exact Int.lt_of_lt_of_le (Int.fmod_lt_of_pos _ (by decide)) (by decide)); (case z => decide))); (intro h'zz t'zz l'zz hl'zz hn'zz F'zz N'zz hI'zz; (try dsimp only [List.nil_append, List.cons_append] at N'zz))))
  refine wpAny_call ?_
  k_dflt (refine' code_own [(l, W.listOf #[.int d0 t0, .int d1 t1, .int d2 t2, .int d3 t3, .int d4 t4, .int d5 t5] ln)] ?kO ?k1 ?k2 ?k3 ?k4 ?k5 ?kA ?kF ?kK ?k6 ?k7 ?k8 ?k9 ?kB ?_ ?c2 ?c3 ?c4 ?c5; (case kO => intro q hq; rw [List.mem_singleton.mp hq]; exact hl); (case kA => exact rfl); (case kF => exact rfl); (case kK => assumption); (case k1 => k_asm); (case k2 => k_asm); (case k3 => k_asm); (case k4 => k_asm); (case k5 => k_asm); (case k6 => k_is); (case k7 => k_is); (case k8 => ktr_room); (case k9 => exact BindsTo.of_eq rfl); (case c5 => decide); (case kB => exact locs rfl); (case c2 => exact rfl); (case c3 => exact rfl); (case c4 => exact rfl); k_whole; intro g' L' h' hG' FG' F' N' B' X' T'; (try dsimp only); (try k_lift B'); (try k_fold))
  k_steps
  exact order_end ret (by assumption) (by assumption) (by k_mem) rfl (tail_back k4 (by assumption) (by assumption) (by assumption) (fun q hq => by rw [List.mem_singleton.mp hq]; simp)) (isOrder_of (by assumption) (by assumption) (by assumption) (by assumption) (by assumption) (fm_lt _ (by decide) (by decide)) (fm_lt _ (by decide) (by decide)) (fm_lt _ (by decide) (by decide)) (fm_lt _ (by decide) (by decide)) (fm_lt _ (by decide) (by decide)) (fm_lt _ (by decide) (by decide)))


end Mine
end
theorem Mine.rs21 : True := by k_with_none; w_top off; trivial
section
open PySem PySem.W PyProof.Rows PySem.Calls PyProof.V PySem.Spec
set_option maxRecDepth 100000
set_option maxHeartbeats 8000000
namespace Mine
section
variable {prog : Program} {w : World} {A : Around} {E : Value → Shared → Prop} {s : Shared} {h₀ : Heap} {L : Addr} {m : Str → Option Value} {env : Env}
/-- a text's iterator, with its place -/
theorem iter_text {x : Str} {t : Tok} {Q : Value → Shared → Prop}
    (hQ : ∀ (o : Obj) (St : Nat → Heap → Prop), (∀ A' : Around, A'.handled = none → Walks prog w A' s.heap.objs.size [s.heap.objs.size] [s.heap.objs.size] x.cps.size (SignAt x) St) → St 0 (s.heap.push o) → (∀ i h, St i h → ∃ o, h.get? s.heap.objs.size = some o) →
      Q (.ref s.heap.objs.size) { s with heap := s.heap.push o }) : wpAny (model prog w) A (pyIter (.str x t)) Q E s := by
  cases ha : x.cps.all (· < 128)
  · exact wpAny_pyIter_wide ha (hQ _ _ (fun A' hA => Walks.strWide hA _ x t) ⟨_, Heap.get?_push_size _ rfl, rfl, rfl⟩ fun i h st => let ⟨o, e, _⟩ := st; ⟨o, e⟩)
  · exact wpAny_pyIter_ascii ha (hQ _ _ (fun A' hA => Walks.strAscii hA _ x t) ⟨_, Heap.get?_push_size _ rfl, rfl, rfl⟩ fun i h st => let ⟨o, e, _⟩ := st; ⟨o, e⟩)
noncomputable def TextSrc (prog : Program) (w : World) (A : Around) (h₀ : Heap) (L : Addr) (m : Str → Option Value) (env : Env) (elt : PySem.Expr) (x : Str) (scope : Scope) (cl : List (Str × Addr)) (Fin : Shared → List Value → List (Addr × Obj) → Prop) (xv : Value) (s₁ : Shared) : Prop :=
  ∃ z t news, xv = .str z t ∧ Fr h₀ L s₁.heap m ∧ News h₀ L s₁.heap news ∧ z.length ≤ sizeLine ∧
    ∀ s₂ : Shared, (∃ h, s₂ = { s₁ with heap := h }) → LCg.CompRest prog w A h₀ L m env elt x scope cl s₂ (fun _ => True) (SignAt z) (Fin s₂) z.cps.size 0 [] news
theorem TextSrc.intro {elt : PySem.Expr} {x : Str} {scope : Scope} {cl : List (Str × Addr)} {Fin : Shared → List Value → List (Addr × Obj) → Prop} {s₁ : Shared} {z : Str} {t : Tok} {news : List (Addr × Obj)}
    (F : Fr h₀ L s₁.heap m) (N : News h₀ L s₁.heap news) (hz : z.length ≤ sizeLine) (h : ∀ g, LCg.CompRest prog w A h₀ L m env elt x scope cl { s₁ with heap := g } (fun _ => True) (SignAt z) (Fin { s₁ with heap := g }) z.cps.size 0 [] news) :
    TextSrc prog w A h₀ L m env elt x scope cl Fin (.str z t) s₁ := ⟨z, t, news, rfl, F, N, hz, fun _ ⟨g, e⟩ => e ▸ h g⟩
/-- y = [elt for x in a text], the scope with free names -/
theorem Assign_ListComp_S {elt iter : PySem.Expr} {x y : Str} {px py : Pos} {scope : Scope} {cl : List (Str × Addr)} {pos spos : Pos} {Q : Flow → Shared → Prop} (_F₀ : Fr h₀ L s.heap m) (hLe : env.locals = L) (hh : A.handled = none)
    (hsw : swapsWith (.ListComp elt [⟨.Name x px, iter, [], 0⟩] scope pos) (some (.Name y py)) spos.line env = pure true)
    (hclos : closureFor scope env = pure cl) (hcell : ∀ z ∈ scope.names, z.2 ≠ .cell) (hkind : scope.kind = .function)
    (hnames : ∀ z ∈ scope.names, z.2 = .local → scope.names.lookup z.1 = some .local) (hx : scope.names.lookup x = some .local)
    (hy : env.kindOf y = some .local) (hp : (env.scope.kind == .class || (env.scope.kind == .module && env.locals != env.globals)) = false)
    (h : wpAny (model prog w) A (eval iter env) (TextSrc prog w A h₀ L m env elt x scope cl (fun s₂ => LCg.FinA h₀ L m s₂ y Q)) E s)
    (hs : ∀ x, foldedSetIterable iter env x = pure x := by intro _; rfl) :
    wpAny (model prog w) A (exec (.Assign [.Name y py] (.ListComp elt [⟨.Name x px, iter, [], 0⟩] scope pos) spos) env) Q E s := by
  subst hLe
  rw [exec_Assign_Name_used _ _ _ _ hsw]
  refine wpAny_bind (wpAny_standAt (wpAny_bind ?_))
  show wpAny _ A (do let _ ← comprehension (.ListComp elt [⟨.Name x px, iter, [], 0⟩] scope pos) scope env _ (newList []) false (eval iter env) (some (assign (.Name y py) env))) _ _ s
  refine wpAny_bind (wpAny_mono (wpAny_comprehension_free (use := some (assign (.Name y py) env)) (Q := fun _ s' => Q .next s') rfl hs hclos hkind hnames
    (wpAny_mono h (fun xv s₁ h₁ => ?_) fun _ _ e => e)) (fun _ s' hq => wpAny_pure (wpAny_pure hq)) fun _ _ e => e)
  obtain ⟨z, t, news, rfl, F, N, hsz, R⟩ := h₁
  refine iter_text fun o St W hst hIo => ?_
  refine LCg.block_U (W A hh) hsz hIo (fun i h h' o nw st e e' _ _ _ => (W A hh).frame i h h' st fun b hb o' q => ?_) hcell hkind hx hst (fun b hb => ?_)
    (F.keeps fun _ _ e => Heap.get?_push_of_some _ e) (N.grown fun _ _ e => Heap.get?_push_of_some _ e) (Nat.ne_of_lt F.ns.lt) (next_is_new F) (fun p hp => Nat.ne_of_lt (Heap.lt_size (N p hp).1)) trivial (R _ ⟨_, rfl⟩) ?_
  · rw [List.mem_singleton.mp hb] at q ⊢
    rw [e] at q
    rw [← q]; exact e'
  · rw [List.mem_singleton.mp hb]
    show s₁.heap.objs.size < (s₁.heap.push _).objs.size
    rw [Heap.size_push]; exact Nat.lt_succ_self _
  · intro D C h' tk m' ys news' F' N' o1 hn hC₀ hD₀ hCL hDL hCD offC fin
    show wpAny _ A (assign (.Name y py) env (.ref D)) _ _ _
    refine wpAny_assign_Name (wpAny_storeName_local hy F'.ns (fun h₂ hn₂ hs₂ => ?_) hp)
    have hL₀ : h₀.get? env.locals = none := Heap.get?_none_of_le F'.above
    have F₂ : Fr h₀ env.locals h₂ (fun z => if z = y then some (.ref D) else m z) := ⟨hn₂, fun b o e => hs₂.extBut b o (fun q => by rw [q, hL₀] at e; cases e) (F'.keep b o e), F'.above⟩
    refine ⟨m', hn.sameBut hs₂ hCL, fun h'' hs'' => fin D h'' _ (F₂.change hs'' hCL hC₀) (fun p hp => ?_) o1⟩
    have z : h₂.get? p.1 = some p.2 := hs₂.extBut _ _ (N' p hp).2.1 (N' p hp).1
    refine ⟨hs''.extBut _ _ ?_ z, (N' p hp).2⟩
    rcases List.mem_cons.mp hp with rfl | hp
    · exact Ne.symm hCD
    · exact offC p hp
theorem ints_snoc {t : Tok} {c : Int} : ∀ {vs : List Value} {ns : List Int}, IntsAre vs ns → IntsAre (vs ++ [.int c t]) (ns ++ [c])
  | _, _, .nil => .cons c t .nil
  | _, _, .cons z u r => .cons z u (ints_snoc r)
noncomputable def CiEnd (h₀ : Heap) (L : Addr) (m : Str → Option Value) (s : Shared) (led : List (Addr × Obj)) (c : Int) (v : Value) (s₂ : Shared) : Prop := ∃ t h' tk', v = .int c t ∧ s₂ = { s with heap := h', toks := tk' } ∧ Fr h₀ L h' m ∧ News h₀ L h' led
/-- the ints of a text's signs, one turn for each -/
theorem comp_ints {elt : PySem.Expr} {x : Str} {scope : Scope} {cl : List (Str × Addr)} {Fin : List Value → List (Addr × Obj) → Prop} {news : List (Addr × Obj)} {z : Str} (g : Nat → Int)
    (turn : ∀ c u I oI C oC D m₂ ys h tk (E' : Value → Shared → Prop), c ∈ z.cps.toList → LCg.NsObj oC m₂ → m₂ x = some (.str ⟨#[c]⟩ u) → Fr h₀ L h m → News h₀ L h ((I, oI) :: (C, oC) :: (D, LCg.lst ys) :: news) → LCg.Off3 I C D news → ((@Ne Nat I C) ∧ (@Ne Nat I D) ∧ (@Ne Nat C D)) →
      wpAny (model prog w) A (eval elt (compEnvC scope cl C env)) (CiEnd h₀ L m s ((I, oI) :: (C, oC) :: (D, LCg.lst ys) :: news) (g c)) E' { s with heap := h, toks := tk })
    (fin : ∀ ys, IntsAre ys (z.cps.toList.map g) → Fin ys news) : LCg.CompRest prog w A h₀ L m env elt x scope cl s (fun _ => True) (SignAt z) Fin z.cps.size 0 [] news := by
  have key : ∀ (j i : Nat) (ys : List Value), i + j = z.cps.toList.length → IntsAre ys ((z.cps.toList.take i).map g) → LCg.CompRest prog w A h₀ L m env elt x scope cl s (fun _ => True) (SignAt z) Fin j i ys news := by
    intro j
    induction j with
    | zero =>
      intro i ys hi hy
      rw [List.take_of_length_le (by omega)] at hy
      exact LCg.CompRest.zero (fin ys hy)
    | succ j ih =>
      intro i ys hi hy
      refine LCg.CompRest.succ ?_
      intro v I oI C oC D m₂ h tk E' hv hC hx F N off ne
      obtain ⟨c, u, hc, rfl⟩ := hv
      have hc' : z.cps.toList[i]? = some c := by rw [Array.getElem?_toList]; exact hc
      refine wpAny_mono (turn c u I oI C oC D m₂ ys h tk E' (List.mem_of_getElem? hc') hC hx F N off ne) (fun y s₂ hq => ?_) fun _ _ e => e
      obtain ⟨t, h', tk', rfl, rfl, F', N'⟩ := hq
      refine ⟨h', tk', news, rfl, F', N', off, trivial, ih (i + 1) _ (by omega) ?_⟩
      rw [List.take_add_one, hc']
      simpa using ints_snoc hy
  have hl : z.cps.size = z.cps.toList.length := by simp
  rw [hl]
  exact key _ 0 [] (by omega) .nil
end
end Mine
end
theorem Mine.rs22 : True := by k_with_none; w_top off; trivial
section
open PySem PySem.W PyProof.Rows PySem.Calls PyProof.V PySem.Spec
set_option maxRecDepth 100000
set_option maxHeartbeats 8000000
namespace Mine
noncomputable def LiEnd (g : Heap) (L : Addr) (s : Shared) (I : Addr) (oI : Obj) (J : (Str → Option Value) → List (Addr × Obj) → Prop) (Q : Flow → Shared → Prop) (f : Flow) (s₂ : Shared) : Prop :=
  match f with
  | .ret v => Q (.ret v) s₂
  | .brk => Q .next s₂
  | _ => ∃ h' tk m' nw, s₂ = { s with heap := h', toks := tk } ∧ Fr g L h' m' ∧ News g L h' ((I, oI) :: nw) ∧ (∀ p ∈ nw, p.1 ≠ I) ∧ J m' nw
noncomputable def LiSrc (prog : Program) (w : World) (A : Around) (g : Heap) (env : Env) (x : Str) (body : List Stmt) (Q : Flow → Shared → Prop) (E : Value → Shared → Prop) (xv : Value) (s : Shared) : Prop :=
  ∃ (sl : Addr) (lo : Obj) (us : List Value) (k : Nat) (news : List (Addr × Obj)) (m : Str → Option Value) (J : Nat → (Str → Option Value) → List (Addr × Obj) → Prop),
    xv = .ref sl ∧ lo.cls = .type "list" ∧ lo.data = .seq us.toArray k ∧ Fr g env.locals s.heap m ∧ News g env.locals s.heap news ∧ J 0 m news ∧ (∀ i m' nw, J i m' nw → (sl, lo) ∈ nw) ∧
    (∀ i v m' nw h tk I oI, us[i]? = some v → J i m' nw → (∀ p ∈ nw, p.1 ≠ I) → Fr g env.locals h (fun z => if z = x then some v else m' z) → News g env.locals h ((I, oI) :: nw) →
      wpAny (model prog w) A (execs body env) (LiEnd g env.locals { s with heap := h, toks := tk } I oI (J (i + 1)) Q) E { s with heap := h, toks := tk }) ∧
    ∀ h tk m' nw, Fr g env.locals h m' → News g env.locals h nw → J us.length m' nw → Q .next { s with heap := h, toks := tk }
section
variable {prog : Program} {w : World} {A : Around} {E : Value → Shared → Prop} {s : Shared} {env : Env} {g : Heap} {Q : Flow → Shared → Prop}
/-- a for over a list of the ledger, by what holds of the frame and of the ledger -/
theorem For_list {x : Str} {px pos : Pos} {iter : PySem.Expr} {body : List Stmt} {m₀ : Str → Option Value} (_F₀ : Fr g env.locals s.heap m₀) (hh : A.handled = none)
    (hx : env.kindOf x = some .local) (hp : (env.scope.kind == .class || (env.scope.kind == .module && env.locals != env.globals)) = false)
    (h : wpAny (model prog w) A (eval iter env) (LiSrc prog w A g env x body Q E) E s)
    (hs : ∀ x, foldedSetIterable iter env x = pure x := by intro _; rfl)
    (hE : PassesOwn (model prog w) A env E := by passes_own) :
    wpAny (model prog w) A (exec (.For (.Name x px) iter body [] pos) env) Q E s := by
  refine wpAny_For (wpAny_mono h (fun xv s₁ h₁ => ?_) fun _ _ e => e) hs
  obtain ⟨sl, lo, us, k, news, m, J, rfl, hcl, hdat, F, N, h0, hkeep, turn, done⟩ := h₁
  have hm := hkeep _ _ _ h0
  have hl : s₁.heap.IsList sl us.toArray := ⟨lo, (N _ hm).1, hcl, k, hdat⟩
  have hlt : sl < s₁.heap.objs.size := Heap.lt_size (N _ hm).1
  refine wpAny_pyIter_list hl ?_
  have W := Walks.list (prog := prog) (w := w) hh s₁.heap.objs.size sl (Nat.ne_of_lt hlt) us.toArray
  have hgI : g.get? s₁.heap.objs.size = none := next_is_new F
  have hLI : env.locals ≠ s₁.heap.objs.size := Nat.ne_of_lt F.ns.lt
  generalize hI : s₁.heap.objs.size = I at W hgI hLI hlt
  refine codeAny_forLoop_any
    (fun k s' => ∃ h' tk i m' nw, s' = { s₁ with heap := h', toks := tk } ∧ i ≤ us.length ∧ k = us.length + 1 - i ∧ h'.IsListIter I sl i ∧ Fr g env.locals h' m' ∧ News g env.locals h' nw ∧ (∀ p ∈ nw, p.1 ≠ I) ∧ J i m' nw) ?_ (us.length + 1)
    ⟨_, s₁.toks, 0, m, news, rfl, Nat.zero_le _, rfl, ⟨_, by rw [← hI]; exact Heap.get?_push_size _ rfl, rfl, rfl⟩, F.push _, N.grown fun _ _ e => Heap.get?_push_of_some _ e, fun p hp => by rw [← hI]; exact Nat.ne_of_lt (Heap.lt_size (N p hp).1), h0⟩
  rintro k s' ⟨h', tk, i, m', nw, rfl, hi, rfl, hit, F', N', hnI, hJ⟩
  have hl' : h'.IsList sl us.toArray := ⟨lo, (N' _ (hkeep _ _ _ hJ)).1, hcl, _, hdat⟩
  have frN : ∀ {h'' : Heap}, (∀ b o, b ∉ [I] → h'.get? b = some o → h''.get? b = some o) → Fr g env.locals h'' m' ∧ News g env.locals h'' nw := fun hk =>
    ⟨⟨F'.ns.at' fun o e => hk _ o (by simpa using hLI) e, fun b o e => hk b o (fun q => by rw [List.mem_singleton.mp q, hgI] at e; cases e) (F'.keep b o e), F'.above⟩, fun p hp' => ⟨hk _ _ (by simpa using hnI p hp') (N' p hp').1, (N' p hp').2⟩⟩
  by_cases hlt' : i < us.length
  · refine W.item i _ _ _ (by simpa using hlt') ⟨hit, hl'⟩ fun v h₂ tk₂ hPv hst₂ hk₂ => ?_
    dsimp only
    refine wpAny_of_eq (a := ()) rfl ?_
    obtain ⟨F₂, N₂⟩ := frN hk₂
    refine wpAny_assign_Name (wpAny_storeName_local hx F₂.ns (fun h₃ hn₃ hs₃ => ?_) hp)
    obtain ⟨oI, hoI, hoIc, hoId⟩ := hst₂.1
    have hI₃ : h₃.get? I = some oI := hs₃.extBut I oI (Ne.symm hLI) hoI
    have N₃ : News g env.locals h₃ ((I, oI) :: nw) := by
      intro p hp'
      rcases List.mem_cons.mp hp' with rfl | hp'
      · exact ⟨hI₃, Ne.symm hLI, hgI⟩
      · exact N₂.set hs₃ p hp'
    refine wpAny_mono (wpAny_mono (turn i v m' nw h₃ _ I oI (by simpa using hPv) hJ hnI (F₂.set hn₃ hs₃) N₃) (fun f s₄ h₄ => ?_) fun _ _ e => e) (fun _ _ e => e) hE
    cases f with
    | ret v => exact h₄
    | brk => exact h₄
    | next =>
      obtain ⟨h₄, tk₄, m₄, nw₄, rfl, F₄, N₄, hnI₄, hJ₄⟩ := h₄
      exact ⟨us.length + 1 - (i + 1), by omega, h₄, tk₄, i + 1, m₄, nw₄, rfl, hlt', rfl, ⟨oI, (N₄ (I, oI) (.head _)).1, hoIc, hoId⟩, F₄, fun p hp' => N₄ p (.tail _ hp'), hnI₄, hJ₄⟩
    | cont =>
      obtain ⟨h₄, tk₄, m₄, nw₄, rfl, F₄, N₄, hnI₄, hJ₄⟩ := h₄
      exact ⟨us.length + 1 - (i + 1), by omega, h₄, tk₄, i + 1, m₄, nw₄, rfl, hlt', rfl, ⟨oI, (N₄ (I, oI) (.head _)).1, hoIc, hoId⟩, F₄, fun p hp' => N₄ p (.tail _ hp'), hnI₄, hJ₄⟩
  · have hin : i = us.toArray.size := by simp; omega
    have hin' : i = us.length := by simpa using hin
    rw [hin] at hit
    refine W.done _ _ _ ⟨hit, hl'⟩ fun h₂ tk₂ hk₂ => ?_
    obtain ⟨F₂, N₂⟩ := frN hk₂
    refine wpAny_execs_nil ?_
    rw [hin'] at hJ
    exact done h₂ tk₂ m' nw F₂ N₂ hJ
end
end Mine
end
theorem Mine.rs23 : True := by k_with_none; w_top off; trivial
section
open PySem PySem.W PyProof.Rows PySem.Calls PyProof.V PySem.Spec
set_option maxRecDepth 100000
set_option maxHeartbeats 8000000
namespace Mine
noncomputable def mkStep (last : Int) (st : List Int × Int) (mark : Int) : List Int × Int := if mark = last then (st.1 ++ [st.2 + 1], 0) else (st.1, st.2 + 1)
theorem mkStep_len (last : Int) (st : List Int × Int) (mark : Int) : (mkStep last st mark).1.length ≤ st.1.length + 1 := by
  unfold mkStep
  split
  · simp
  · simp
abbrev nMark := Str.ofString "mark"
abbrev nMany := Str.ofString "many"
abbrev nSizes := Str.ofString "sizes"
abbrev nMarks := Str.ofString "marks"
abbrev nWoven := Str.ofString "woven"
/-- a turn's end of the loop over the marks -/
noncomputable def MkEnd (g : Heap) (L : Addr) (s : Shared) (I : Addr) (oI : Obj) (zl D cl : Addr) (oC : Obj) (ys : List Value) (x : Str) (tx : Tok) (st : List Int × Int) (Q : Flow → Shared → Prop) (f : Flow) (s₂ : Shared) : Prop :=
  match f with
  | .ret v => Q (.ret v) s₂
  | .brk => Q .next s₂
  | _ => ∃ h' tk m' arr kz tm, s₂ = { s with heap := h', toks := tk } ∧ Fr g L h' m' ∧ News g L h' [(I, oI), (zl, W.listOf (List.toArray arr) kz), (D, LCg.lst ys), (cl, oC)] ∧ IntsAre arr st.1 ∧
      m' nMany = some (.int st.2 tm) ∧ m' nSizes = some (.ref zl) ∧ m' nMarks = some (.ref D) ∧ m' nWoven = some (.str x tx)
theorem MkEnd.yes {g h' : Heap} {L : Addr} {s : Shared} {I zl D cl : Addr} {oI oC : Obj} {ys arr : List Value} {x : Str} {tx tm tn : Tok} {last n many : Int} {zs : List Int} {kz tk : Nat} {m' : Str → Option Value} {Q : Flow → Shared → Prop}
    (F : Fr g L h' m') (N : News g L h' [(I, oI), (zl, W.listOf ((List.toArray arr).push (.int (many + 1) tn)) (kz + 1)), (D, LCg.lst ys), (cl, oC)]) (hi : IntsAre arr zs) (hn : n = last)
    (e1 : m' nMany = some (.int 0 tm)) (e2 : m' nSizes = some (.ref zl)) (e3 : m' nMarks = some (.ref D)) (e4 : m' nWoven = some (.str x tx)) :
    MkEnd g L s I oI zl D cl oC ys x tx (mkStep last (zs, many) n) Q .next { s with heap := h', toks := tk } := by
  unfold mkStep
  rw [if_pos hn]
  rw [List.push_toArray] at N
  exact ⟨h', tk, m', arr ++ [.int (many + 1) tn], kz + 1, tm, rfl, F, N, ints_snoc hi, e1, e2, e3, e4⟩
theorem MkEnd.no {g h' : Heap} {L : Addr} {s : Shared} {I zl D cl : Addr} {oI oC : Obj} {ys arr : List Value} {x : Str} {tx tm : Tok} {last n many : Int} {zs : List Int} {kz tk : Nat} {m' : Str → Option Value} {Q : Flow → Shared → Prop}
    (F : Fr g L h' m') (N : News g L h' [(I, oI), (zl, W.listOf (List.toArray arr) kz), (D, LCg.lst ys), (cl, oC)]) (hi : IntsAre arr zs) (hn : ¬ n = last)
    (e1 : m' nMany = some (.int (many + 1) tm)) (e2 : m' nSizes = some (.ref zl)) (e3 : m' nMarks = some (.ref D)) (e4 : m' nWoven = some (.str x tx)) :
    MkEnd g L s I oI zl D cl oC ys x tx (mkStep last (zs, many) n) Q .next { s with heap := h', toks := tk } := by
  unfold mkStep
  rw [if_neg hn]
  exact ⟨h', tk, m', arr, kz, tm, rfl, F, N, hi, e1, e2, e3, e4⟩
theorem pin5 {m : Str → Option Value} {a b c d e : Str} {va vb vc vd ve : Value} (h1 : m a = some va) (h2 : m b = some vb) (h3 : m c = some vc) (h4 : m d = some vd) (h5 : m e = some ve) :
    m = (fun z => if z = a then some va else if z = b then some vb else if z = c then some vc else if z = d then some vd else if z = e then some ve else m z) := by
  funext z
  by_cases q1 : z = a
  · subst q1; simp [h1]
  · rw [if_neg q1]
    by_cases q2 : z = b
    · subst q2; simp [h2]
    · rw [if_neg q2]
      by_cases q3 : z = c
      · subst q3; simp [h3]
      · rw [if_neg q3]
        by_cases q4 : z = d
        · subst q4; simp [h4]
        · rw [if_neg q4]
          by_cases q5 : z = e
          · subst q5; simp [h5]
          · rw [if_neg q5]
section
variable {prog : Program} {w : World} {A : Around} {E : Value → Shared → Prop} {s : Shared} {env : Env} {g : Heap} {Q : Flow → Shared → Prop}
theorem last_item {news : List (Addr × Obj)} {L D : Addr} {value slice : PySem.Expr} {ys : List Value} {ns : List Int} {u : Tok} {Q : Value → Shared → Prop} (N : News g L s.heap news) (hm : (D, LCg.lst ys) ∈ news) (hi : IntsAre ys ns) (hpos : 0 < ns.length)
    (h : ∀ t, Q (.int (ns.getD (-1 + (ns.length : Int)).toNat 0) t) s)
    (hs : subscripted slice false (.ref D) (.int (-1) u) = operate [.ref D, .int (-1) u] (getItem (.ref D) (.int (-1) u)) := by with_unfolding_all rfl) :
    wpAny (model prog w) A (subscriptTail value slice (.ref D) (.int (-1) u)) Q E s :=
  item_list_ints_negR ⟨_, (N _ hm).1, rfl, _, rfl⟩ hi (by decide) (by omega) (by decide) h hs
theorem marks_src {body : List Stmt} {zl D cl : Addr} {oC : Obj} {ys : List Value} {ns : List Int} {m : Str → Option Value} {x : Str} {tx t0 : Tok} (last : Int)
    (F : Fr g env.locals s.heap m) (N : News g env.locals s.heap [(zl, W.listOf #[] 0), (D, LCg.lst ys), (cl, oC)]) (hi : IntsAre ys ns)
    (e1 : m nMany = some (.int 0 t0)) (e2 : m nSizes = some (.ref zl)) (e3 : m nMarks = some (.ref D)) (e4 : m nWoven = some (.str x tx))
    (turn : ∀ (n : Int) (t : Tok) (arr : List Value) (zs : List Int) (many : Int) (tm : Tok) (kz : Nat) (u : Str → Option Value) h tk I oI, n ∈ ns → IntsAre arr zs → zs.length ≤ ns.length → 0 < ns.length → (@Ne Nat zl I) → (@Ne Nat D I) → (@Ne Nat cl I) →
      Fr g env.locals h (fun z => if z = nMark then some (.int n t) else if z = nMany then some (.int many tm) else if z = nSizes then some (.ref zl) else if z = nMarks then some (.ref D) else if z = nWoven then some (.str x tx) else u z) →
      News g env.locals h [(I, oI), (zl, W.listOf (List.toArray arr) kz), (D, LCg.lst ys), (cl, oC)] →
      wpAny (model prog w) A (execs body env) (MkEnd g env.locals { s with heap := h, toks := tk } I oI zl D cl oC ys x tx (mkStep last (zs, many) n) Q) E { s with heap := h, toks := tk })
    (done : ∀ h tk (arr : List Value) (zs : List Int) (many : Int) (tm : Tok) (kz : Nat) (u : Str → Option Value), (zs, many) = ns.foldl (mkStep last) ([], 0) → IntsAre arr zs →
      Fr g env.locals h (fun z => if z = nMany then some (.int many tm) else if z = nSizes then some (.ref zl) else if z = nMarks then some (.ref D) else if z = nWoven then some (.str x tx) else u z) →
      News g env.locals h [(zl, W.listOf (List.toArray arr) kz), (D, LCg.lst ys), (cl, oC)] → Q .next { s with heap := h, toks := tk }) :
    LiSrc prog w A g env nMark body Q E (.ref D) s := by
  have hlen := IntsAre.length hi
  refine ⟨D, LCg.lst ys, ys, ys.length, _, m, fun i m' nw => i ≤ ns.length ∧ ∃ arr zs many tm kz, nw = [(zl, W.listOf (List.toArray arr) kz), (D, LCg.lst ys), (cl, oC)] ∧ IntsAre arr zs ∧ zs.length ≤ i ∧ (zs, many) = (ns.take i).foldl (mkStep last) ([], 0) ∧
    m' nMany = some (.int many tm) ∧ m' nSizes = some (.ref zl) ∧ m' nMarks = some (.ref D) ∧ m' nWoven = some (.str x tx), rfl, rfl, rfl, F, N, ⟨Nat.zero_le _, [], [], 0, t0, 0, rfl, .nil, Nat.zero_le _, rfl, e1, e2, e3, e4⟩, ?_, ?_, ?_⟩
  · rintro i m' nw ⟨_, arr, zs, many, tm, kz, rfl, _⟩
    exact .tail _ (.head _)
  · rintro i v m' nw h tk I oI hv ⟨_, arr, zs, many, tm, kz, rfl, ha, hz, hst, f1, f2, f3, f4⟩ hnI F' N'
    obtain ⟨n, t, rfl, hn⟩ := IntsAre.at hi i v hv
    have hlt : i < ns.length := (List.getElem?_eq_some_iff.mp hn).1
    have F'' := F'
    rw [pin5 (m := fun z => if z = nMark then some (.int n t) else m' z) (a := nMark) (b := nMany) (c := nSizes) (d := nMarks) (e := nWoven) (va := .int n t) (vb := .int many tm) (vc := .ref zl) (vd := .ref D) (ve := .str x tx) (if_pos rfl) (by show (if nMany = nMark then _ else m' nMany) = _; rw [if_neg (by decide)]; exact f1) (by show (if nSizes = nMark then _ else m' nSizes) = _; rw [if_neg (by decide)]; exact f2) (by show (if nMarks = nMark then _ else m' nMarks) = _; rw [if_neg (by decide)]; exact f3) (by show (if nWoven = nMark then _ else m' nWoven) = _; rw [if_neg (by decide)]; exact f4)] at F''
    have z1 := hnI _ (List.Mem.head _)
    have z2 := hnI _ (.tail _ (List.Mem.head _))
    have z3 := hnI _ (.tail _ (.tail _ (List.Mem.head _)))
    refine wpAny_mono (turn n t arr zs many tm kz _ h tk I oI (List.mem_of_getElem? hn) ha (by omega) (by omega) z1 z2 z3 F'' N') (fun f s₂ q => ?_) fun _ _ e => e
    have hst' : mkStep last (zs, many) n = (ns.take (i + 1)).foldl (mkStep last) ([], 0) := by
      rw [List.take_add_one, hn]
      simp only [Option.toList, List.foldl_append, List.foldl_cons, List.foldl_nil]
      rw [← hst]
    have hlz := mkStep_len last (zs, many) n
    have off : ∀ arr kz, ∀ p ∈ [(zl, W.listOf (List.toArray arr) kz), (D, LCg.lst ys), (cl, oC)], p.1 ≠ I := by
      intro arr kz p hp
      rcases List.mem_cons.mp hp with rfl | hp
      · exact z1
      rcases List.mem_cons.mp hp with rfl | hp
      · exact z2
      rcases List.mem_cons.mp hp with rfl | hp
      · exact z3
      · cases hp
    cases f with
    | ret v => exact q
    | brk => exact q
    | next =>
      obtain ⟨h₃, tk₃, m₃, arr₃, kz₃, tm₃, rfl, F₃, N₃, ha₃, f1, f2, f3, f4⟩ := q
      exact ⟨h₃, tk₃, m₃, _, rfl, F₃, N₃, off _ _, hlt, arr₃, _, _, tm₃, kz₃, rfl, ha₃, by have : zs.length ≤ i := hz; exact Nat.le_trans hlz (Nat.succ_le_succ this), hst', f1, f2, f3, f4⟩
    | cont =>
      obtain ⟨h₃, tk₃, m₃, arr₃, kz₃, tm₃, rfl, F₃, N₃, ha₃, f1, f2, f3, f4⟩ := q
      exact ⟨h₃, tk₃, m₃, _, rfl, F₃, N₃, off _ _, hlt, arr₃, _, _, tm₃, kz₃, rfl, ha₃, by have : zs.length ≤ i := hz; exact Nat.le_trans hlz (Nat.succ_le_succ this), hst', f1, f2, f3, f4⟩
  · rintro h tk m' nw F' N' ⟨_, arr, zs, many, tm, kz, rfl, ha, hz, hst, f1, f2, f3, f4⟩
    rw [List.take_of_length_le (by omega)] at hst
    rw [pin5 (a := nMany) (b := nSizes) (c := nMarks) (d := nWoven) (e := nWoven) f1 f2 f3 f4 f4] at F'
    exact done h tk arr zs many tm kz _ hst ha F' N'
end
end Mine
end
theorem Mine.rs24 : True := by k_with_none; w_top off; trivial
section
open PySem PySem.W PyProof.Rows PySem.Calls PyProof.V PySem.Spec
set_option maxRecDepth 100000
set_option maxHeartbeats 8000000
namespace Mine
noncomputable def GiSince (C I : Addr) (s₀ s : Shared) : Prop := ∃ h' tk, s = { s₀ with heap := h', toks := tk } ∧ ∀ b o, b ≠ C → b ≠ I → s₀.heap.get? b = some o → h'.get? b = some o
theorem GiSince.refl (C I : Addr) (s : Shared) : GiSince C I s s := ⟨s.heap, s.toks, rfl, fun _ _ _ _ e => e⟩
theorem GiSince.step {C I : Addr} {s₀ s : Shared} (x : GiSince C I s₀ s) {h' : Heap} {tk : Nat} (hk : ∀ b o, b ≠ C → b ≠ I → s.heap.get? b = some o → h'.get? b = some o) : GiSince C I s₀ { s with heap := h', toks := tk } := by
  obtain ⟨h₁, tk₁, rfl, hk₁⟩ := x
  exact ⟨h', tk, rfl, fun b o hC hw e => hk b o hC hw (hk₁ b o hC hw e)⟩
/-- what a pause of the generator tells: the item, what has changed, and from where it goes on -/
noncomputable def GiY (C I sl : Addr) (g : Heap) (ns : List Int) : Protocol := fun m s₀ v s kap =>
  (∃ n t, ns[ns.length - 1 - m]? = some n ∧ v = .int n t) ∧ ((∃ o, s.heap.get? C = some o) ∧ ∃ o, s.heap.get? I = some o) ∧ GiSince C I s₀ s ∧
    ∀ s'' : Shared, (∀ b, b = C ∨ b = I ∨ b = sl → ∀ o, s.heap.get? b = some o → s''.heap.get? b = some o) → (∀ b o, g.get? b = some o → s''.heap.get? b = some o) → kap (.send .none) s''
noncomputable def GiR (C I : Addr) : GenEnd := fun n s₀ r s₁ => r = .ok (.ret .none) ∧ (n = 0 ∧ GiSince C I s₀ s₁)
/-- a statement that goes on and changes nothing that was there -/
noncomputable def QuietStmt (prog : Program) (w : World) (env : Env) (x : Str) (g : Heap) (ns : List Int) (st : Stmt) : Prop :=
  ∀ (A' : Around) (E' : Value → Shared → Prop) (n : Int) (t : Tok) (s : Shared) (m : Str → Option Value), n ∈ ns → s.heap.Ns env.locals m → m x = some (.int n t) → (∀ b o, g.get? b = some o → s.heap.get? b = some o) →
    wpAny (model prog w) A' (exec st env) (fun f s' => f = .next ∧ ∃ h' tk, s' = { s with heap := h', toks := tk } ∧ ∀ b o, s.heap.get? b = some o → h'.get? b = some o) E' s
/-- a statement that stores into the frame alone -/
noncomputable def StoreStmt (prog : Program) (w : World) (env : Env) (x : Str) (st : Stmt) : Prop :=
  ∀ (A' : Around) (E' : Value → Shared → Prop) (n : Int) (t : Tok) (s : Shared) (m : Str → Option Value), s.heap.Ns env.locals m → m x = some (.int n t) →
    wpAny (model prog w) A' (exec st env) (fun f s' => f = .next ∧ ∃ h' tk m', s' = { s with heap := h', toks := tk } ∧ h'.Ns env.locals m' ∧ ∀ b o, b ≠ env.locals → s.heap.get? b = some o → h'.get? b = some o) E' s
section
variable {prog : Program} {w : World} {A : Around}
theorem seg_giLoop {x : Str} {px py yp ep : Pos} {st1 st2 st4 : Stmt} {I sl : Addr} {us : List Value} {ns : List Int} {env : Env} {g : Heap} {k : Result → Sem Fin} {l : List Value} {c₁ : Code} {p₁ : Pos}
    (hh : A.handled = none) (hi : IntsAre us ns) (hne : sl ≠ I) (hCI : env.locals ≠ I) (hCs : env.locals ≠ sl) (hgC : g.get? env.locals = none) (hgI : g.get? I = none)
    (hk : env.scope.kind = .function) (hx : env.kindOf x = some .local) (hp : (env.scope.kind == .class || (env.scope.kind == .module && env.locals != env.globals)) = false)
    (hco : env.scope.isCoroutine = false) (hint : interactive env = false) (hdb : (x == ("__debug__" : Str)) = false)
    (q1 : QuietStmt prog w env x g ns st1) (q2 : QuietStmt prog w env x g ns st2) (q4 : StoreStmt prog w env x st4)
    (hend : ∀ s₀ s, GiSince env.locals I s₀ s → Seg (model prog w) A (GiR env.locals I) (GiY env.locals I sl g ns) 0 s₀ c₁ (k (.ok .next)) [] s) :
    ∀ (j i : Nat) (s₀ s : Shared) (m : Str → Option Value), ns.length - i = j → i ≤ ns.length → (s.heap.IsListIter I sl i ∧ s.heap.IsList sl us.toArray) → s.heap.Ns env.locals m → GiSince env.locals I s₀ s → (∀ b o, g.get? b = some o → s.heap.get? b = some o) →
      Seg (model prog w) A (GiR env.locals I) (GiY env.locals I sl g ns) j s₀ (.forLoop (.Name x px) (.ref I) [st1, st2, .Expr (.Yield (some (.Name x py)) yp) ep, st4] [] env)
        ((model prog w).den (.forLoop (.Name x px) (.ref I) [st1, st2, .Expr (.Yield (some (.Name x py)) yp) ep, st4] [] env)) [.ret k none false l c₁ p₁ []] s := by
  have hh' : (A.over (.forLoop (.Name x px) (.ref I) [st1, st2, .Expr (.Yield (some (.Name x py)) yp) ep, st4] [] env) [.ret k none false l c₁ p₁ []]).handled = none := hh
  have W := Walks.list (prog := prog) (w := w) hh' I sl hne us.toArray
  have hlen := IntsAre.length hi
  have hus : us.toArray.size = ns.length := by rw [List.size_toArray]; exact hlen
  intro j
  induction j with
  | zero =>
    intro i s₀ s m hk hi' hst hn hs hb
    have hin : i = us.toArray.size := by omega
    subst hin
    show Seg _ A _ _ _ s₀ _ ((forTurn (.Name x px) (.ref I) [st1, st2, .Expr (.Yield (some (.Name x py)) yp) ep, st4] [] env).onRaise _) _ s
    unfold forTurn
    rw [Sem.onRaise_eq_wrap]
    refine seg_bind_wrap (wpAny_standAt ?_)
    refine seg_bind_wrap (wpAny_onRaise (W.done s _ _ hst fun h' tk hk' => ?_))
    refine seg_again rfl ?_
    show Seg _ A _ _ _ s₀ _ (((execs [] env).onRaise _) >>= _) _ _
    refine seg_bind (wpAny_onRaise (wpAny_execs_nil ?_))
    refine seg_leaf (.ok .next) (hend _ _ (hs.step fun b o _ hw e => hk' b o (by simpa using hw) e))
  | succ j ih =>
    intro i s₀ s m hkj hi' hst hn hs hb
    have hlt : i < ns.length := by omega
    show Seg _ A _ _ _ s₀ _ ((forTurn (.Name x px) (.ref I) [st1, st2, .Expr (.Yield (some (.Name x py)) yp) ep, st4] [] env).onRaise _) _ s
    unfold forTurn
    rw [Sem.onRaise_eq_wrap]
    refine seg_bind_wrap (wpAny_standAt ?_)
    refine seg_bind_wrap (wpAny_onRaise (W.item i s _ _ (by rw [hus]; exact hlt) hst fun v h₁ tk₁ hPv hst₁ hk₁ => ?_))
    obtain ⟨n, t, rfl, hn'⟩ := IntsAre.at hi i v (by simpa using hPv)
    dsimp only
    refine seg_bind_wrap (wpAny_of_eq (rfl : letOwnedTupleGo (.Name x px) (.ref I) (.int n t) = pure ()) ?_)
    have hk₁' : ∀ b o, b ≠ I → s.heap.get? b = some o → h₁.get? b = some o := fun b o hb' e => hk₁ b o (by simpa using hb') e
    refine seg_bind_wrap (wpAny_assign_Name (wpAny_storeName_local hx (hn.at' fun o e => hk₁' _ o hCI e) (fun h₂ hn₂ hs₂ => ?_) hp))
    have hst₂ := W.frame _ _ h₂ hst₁ fun b hb' o e => hs₂.extBut b o (fun q => by
      have q' : b = env.locals := q
      have hb'' : b = I ∨ b = sl := by simpa using hb'
      rcases hb'' with r | r
      · exact hCI (q' ▸ r)
      · exact hCs (q' ▸ r)) e
    have up₂ : ∀ b o, b ≠ env.locals → b ≠ I → s.heap.get? b = some o → h₂.get? b = some o := fun b o h1 h2 e => hs₂.extBut b o h1 (hk₁' b o h2 e)
    have hb₂ : ∀ b o, g.get? b = some o → h₂.get? b = some o := fun b o e => up₂ b o (fun q => by rw [q, hgC] at e; cases e) (fun q => by rw [q, hgI] at e; cases e) (hb b o e)
    have hmem : n ∈ ns := List.mem_of_getElem? hn'
    rw [Sem.bind_eq_wrap', Sem.wrap_wrap]
    refine seg_execs_cons (seg_wrap (wpAny_mono (q1 _ _ n t _ _ hmem hn₂ (by simp) hb₂) (fun f s₃ h₃ => ?_) fun _ _ e => e))
    obtain ⟨rfl, h₃, tk₃, rfl, hk₃⟩ := h₃
    refine seg_execs_cons (seg_wrap (wpAny_mono (q2 _ _ n t _ _ hmem (hn₂.keeps hk₃) (by simp) fun b o e => hk₃ b o (hb₂ b o e)) (fun f s₄ h₄ => ?_) fun _ _ e => e))
    obtain ⟨rfl, h₄, tk₄, rfl, hk₄⟩ := h₄
    have hn₄ := (hn₂.keeps hk₃).keeps hk₄
    refine seg_execs_cons (seg_Expr_Yield rfl rfl rfl (wpAny_Name (wpAny_loadName_local (v := .int n t) hk hx hn₄ (by simp) ?_) hdb) hco hint)
    intro kap hkap
    refine ⟨⟨n, t, ?_, rfl⟩, ⟨(let ⟨o, _, _, e, _⟩ := hn₄; ⟨o, e⟩), (let ⟨o, e, _⟩ := hst₂.1; ⟨o, hk₄ I o (hk₃ I o e)⟩)⟩, (hs.step up₂).step fun b o _ _ e => hk₄ b o (hk₃ b o e), fun s'' hal hbase => hkap .none s'' ?_⟩
    · have e : ns.length - 1 - j = i := by omega
      rw [e]; exact hn'
    · have hn₅ := hn₄.at' fun o e => hal _ (.inl rfl) o e
      refine seg_execs_cons (seg_wrap (wpAny_mono (q4 _ _ n t _ _ hn₅ (by simp)) (fun f s₆ h₆ => ?_) fun _ _ e => e))
      obtain ⟨rfl, h₆, tk₆, m₆, rfl, hn₆, hk₆⟩ := h₆
      refine seg_execs_nil ?_
      refine seg_again rfl (ih (i + 1) s'' _ m₆ (by omega) hlt ?_ hn₆ ((GiSince.refl _ _ _).step fun b o h1 _ e => hk₆ b o h1 e) fun b o e => hk₆ b o (fun q => by rw [q, hgC] at e; cases e) (hbase b o e))
      refine W.frame _ _ _ hst₂ fun b hb' o e => ?_
      have hb'' : b = I ∨ b = sl := by simpa using hb'
      refine hk₆ b o ?_ (hal b (.inr hb'') o (hk₄ b o (hk₃ b o e)))
      intro q
      rcases hb'' with r | r
      · exact hCI (q ▸ r)
      · exact hCs (q ▸ r)
end
end Mine
end
theorem Mine.rs25 : True := by k_with_none; w_top off; trivial
section
open PySem PySem.W PyProof.Rows PySem.Calls PyProof.V PySem.Spec
set_option maxRecDepth 100000
set_option maxHeartbeats 8000000
namespace Mine
/-- the first statement: it stores into the frame, makes nothing -/
noncomputable def FirstStmt (prog : Program) (w : World) (env : Env) (y : Str) (st : Stmt) : Prop :=
  ∀ (A' : Around) (E' : Value → Shared → Prop) (v : Value) (s : Shared) (m : Str → Option Value), s.heap.Ns env.locals m → m y = some v →
    wpAny (model prog w) A' (exec st env) (fun f s' => f = .next ∧ ∃ h' tk m', s' = { s with heap := h', toks := tk } ∧ h'.Ns env.locals m' ∧ m' y = some v ∧ h'.objs.size = s.heap.objs.size ∧ ∀ b o, b ≠ env.locals → s.heap.get? b = some o → h'.get? b = some o) E' s
section
variable {prog : Program} {w : World} {A : Around}
theorem seg_giStart {x y : Str} {px py yp ep iy fp : Pos} {st0 st1 st2 st4 : Stmt} {I sl : Addr} {us : List Value} {ns : List Int} {env : Env} {g : Heap} {C : Addr} (hC : env.locals = C)
    (hh : A.handled = none) (hi : IntsAre us ns) (hCs : env.locals ≠ sl) (hgC : g.get? env.locals = none)
    (hk : env.scope.kind = .function) (hx : env.kindOf x = some .local) (hyk : env.kindOf y = some .local) (hp : (env.scope.kind == .class || (env.scope.kind == .module && env.locals != env.globals)) = false)
    (hco : env.scope.isCoroutine = false) (hint : interactive env = false) (hdb : (x == ("__debug__" : Str)) = false) (hdy : (y == ("__debug__" : Str)) = false)
    (q0 : FirstStmt prog w env y st0) (q1 : QuietStmt prog w env x g ns st1) (q2 : QuietStmt prog w env x g ns st2) (q4 : StoreStmt prog w env x st4)
    (s : Shared) (m : Str → Option Value) (hn : s.heap.Ns env.locals m) (hy : m y = some (.ref sl)) (hl : s.heap.IsList sl us.toArray) (hI : s.heap.objs.size = I) (hb : ∀ b o, g.get? b = some o → s.heap.get? b = some o) :
    Seg (model prog w) A (GiR C I) (GiY C I sl g ns) ns.length s (.func [st0, .For (.Name x px) (.Name y iy) [st1, st2, .Expr (.Yield (some (.Name x py)) yp) ep, st4] [] fp] env)
      ((model prog w).den (.func [st0, .For (.Name x px) (.Name y iy) [st1, st2, .Expr (.Yield (some (.Name x py)) yp) ep, st4] [] fp] env)) [] s := by
  subst hC
  have hCI : env.locals ≠ I := by rw [← hI]; exact Nat.ne_of_lt hn.lt
  have hsI : sl ≠ I := by
    obtain ⟨o, ho, _⟩ := hl
    rw [← hI]; exact Nat.ne_of_lt (Heap.lt_size ho)
  have hgI : g.get? I = none := by
    cases e : g.get? I with
    | none => rfl
    | some o => exact absurd (Heap.lt_size (hb I o e)) (by rw [hI]; exact Nat.lt_irrefl _)
  refine seg_func ?_
  refine seg_execs_cons (seg_wrap (wpAny_mono (q0 _ _ _ s m hn hy) (fun f s₁ h₁ => ?_) fun _ _ e => e))
  obtain ⟨rfl, h₁, tk₁, m₁, rfl, hn₁, hy₁, hsz₁, hk₁⟩ := h₁
  refine seg_execs_cons ?_
  rw [exec_For]
  refine seg_bind_wrap (wpAny_standAt ?_)
  refine seg_bind_wrap (wpAny_Name (wpAny_loadName_local hk hyk hn₁ hy₁ ?_) hdy)
  refine seg_bind_wrap (wpAny_of_eq (a := .ref sl) rfl ?_)
  refine seg_bind_wrap (wpAny_standAt ?_)
  have hl₁ : h₁.IsList sl us.toArray := hl.at fun o e => hk₁ sl o (Ne.symm hCs) e
  refine seg_bind_wrap (wpAny_holding (wpAny_pyIter_list hl₁ ?_))
  have up : ∀ b o, b ≠ env.locals → s.heap.get? b = some o → (h₁.push { cls := .type "list_iterator", data := .fields #[.ref sl, .int 0 0] }).get? b = some o := fun b o hb' e => Heap.get?_push_of_some _ (hk₁ b o hb' e)
  have hI₁ : h₁.objs.size = I := by rw [hsz₁]; exact hI
  subst hI₁
  refine seg_call fun p => ?_
  refine seg_giLoop hh hi hsI hCI hCs hgC hgI hk hx hp hco hint hdb q1 q2 q4 ?_ ns.length 0 _ _ m₁ (Nat.sub_zero _) (Nat.zero_le _) ⟨⟨_, Heap.get?_push_size _ rfl, rfl, rfl⟩, hl₁.push _⟩ (hn₁.push _) ⟨_, _, rfl, fun b o h1 _ e => up b o h1 e⟩
    (fun b o e => up b o (fun q => by rw [q, hgC] at e; cases e) (hb b o e))
  intro s₀ s' hs'
  exact seg_end (.ok (.ret .none)) ⟨rfl, rfl, hs'⟩

theorem next_gen {E : Value → Shared → Prop} {s : Shared} {a : Addr} {g n : Nat} {gs : GenState} {P : Nat → Shared → Shared → Prop} {Y : Protocol} {Q : Option Value → Shared → Prop} (hh : A.handled = none)
    (hl : s.heap.NoLimit) (hroom : A.depth < recursionLimit) (hg : s.heap.IsGen a g) (hgs : s.gens[g]? = some gs)
    (hgo : gs.Goes (model prog w) A.in1 (fun n s₀ r s₁ => r = .ok (.ret .none) ∧ P n s₀ s₁) Y n (.send .none) (s.setGen g .running))
    (hY : ∀ v s₁ gs', gs'.bare = true → Y (n - 1) (s.setGen g .running) v s₁ (fun r' s'' => match n with
        | 0 => False
        | m + 1 => gs'.Goes (model prog w) A.in1 (fun n s₀ r s₁ => r = .ok (.ret .none) ∧ P n s₀ s₁) Y m r' s'') → Q (some v) (s₁.setGen g gs'))
    (hP : ∀ s₁, P n (s.setGen g .running) s₁ → ∀ h', (∀ b o, s₁.heap.get? b = some o → h'.get? b = some o) → Q none { s₁.setGen g .finished with heap := h' }) :
    wpAny (model prog w) A (pyNext (.ref a)) Q E s := by
  unfold pyNext
  refine wpAny_bind (wpAny_attempt (wpAny_callSpecial?_slot (name := Str.ofString "__next__") hg.typeIs slot_gen_next
    (wpAny_call_entry slot_gen_next hg.typeIs entry_gen_next ?_ (args_gen_next _))))
  show wpAny _ A.in1 (Builtin.Generator.genWake (.ref a) (.send .none)) _ _ s
  unfold Builtin.Generator.genWake
  refine wpAny_bind (wpAny_holding (wpAny_genNumber hg (wpAny_bind (wpAny_genState hgs ?_))))
  cases gs with
  | running => exact hgo.elim
  | finished => exact hgo.elim
  | _ =>
    refine wpAny_bind (wpAny_roomToWake hl hroom ?_)
    show wpAny _ A.in1 (.resume g (.send .none) [] _) _ _ s
    refine wpAny_resumeQ hgs hgo (fun x s₁ hx => ?_) (fun v s₁ gs' hb hv => ?_)
    · obtain ⟨rfl, hp⟩ := hx
      show wpAny _ A.in1 (newExc (.type "StopIteration") [] >>= _) _ _ _
      refine wpAny_bind ?_
      simp only [newExc, newTuple]
      refine wpAny_bind (wpAny_newObj_type ?_ (by size_fits))
      refine wpAny_bind (m := firstArgMember _ _) (wpAny_of_eq (a := Value.none) (by first | rfl | (simp only [firstArgMember]; rfl)) ?_)
      refine wpAny_newObj_type ?_ (by size_fits)
      simp only [raiseNew]
      refine wpAny_bind (wpAny_bind (wpAny_handled ?_))
      first | rw [show A.in1.handled = none from hh] | rw [hh]
      refine wpAny_throw ?_
      refine wpAny_bind (wpAny_isInstance (T := "StopIteration") (b := true) ⟨_, Heap.get?_push_size _ rfl, rfl⟩ isSubtype_stop ?_)
      exact wpAny_pure (hP s₁ hp _ fun b o hb => Heap.get?_push_of_some _ (Heap.get?_push_of_some _ hb))
    · exact wpAny_pure ⟨v, rfl, wpAny_pure (hY v s₁ gs' hb hv)⟩
end
end Mine
end
theorem Mine.rs26 : True := by k_with_none; w_top off; trivial
section
open PySem PySem.W PyProof.Rows PySem.Calls PyProof.V PySem.Spec
set_option maxRecDepth 100000
set_option maxHeartbeats 8000000
namespace Mine
/-- the generator, with i items taken -/
noncomputable def GiAt (prog : Program) (w : World) (A : Around) (g : Heap) (a : Addr) (gn : Nat) (C I sl : Addr) (ns : List Int) (i : Nat) (s : Shared) : Prop :=
  s.heap.IsGen a gn ∧ ∃ gs, s.gens[gn]? = some gs ∧ ∀ s'' : Shared, (∀ b, b = C ∨ b = I ∨ b = sl → ∀ o, s.heap.get? b = some o → s''.heap.get? b = some o) → (∀ b o, g.get? b = some o → s''.heap.get? b = some o) → (i = 0 → s''.heap.objs.size = I) →
    gs.Goes (model prog w) A.in1 (GiR C I) (GiY C I sl g ns) (ns.length - i) (.send .none) s''
/-- a turn's end -/
noncomputable def GiEnd (g : Heap) (L : Addr) (s : Shared) (led : List (Addr × Obj)) (J : (Str → Option Value) → Prop) (Q : Flow → Shared → Prop) (f : Flow) (s₂ : Shared) : Prop :=
  match f with
  | .ret v => Q (.ret v) s₂
  | .brk => Q .next s₂
  | _ => ∃ h' tk m', s₂ = { s with heap := h', toks := tk } ∧ Fr g L h' m' ∧ News g L h' led ∧ J m'
noncomputable def GiSrc (prog : Program) (w : World) (A : Around) (g : Heap) (env : Env) (x : Str) (body : List Stmt) (Q : Flow → Shared → Prop) (E : Value → Shared → Prop) (xv : Value) (s : Shared) : Prop :=
  ∃ (a : Addr) (gn : Nat) (C I sl : Addr) (lo : Obj) (ns : List Int) (news : List (Addr × Obj)) (m : Str → Option Value) (J : Nat → (Str → Option Value) → Prop),
    xv = .ref a ∧ GiAt prog w A g a gn C I sl ns 0 s ∧ s.heap.objs.size = I ∧ env.locals < C ∧ C < a ∧ a < I ∧ (sl, lo) ∈ news ∧ (∀ p ∈ news, p.1 < C) ∧ (∃ o, s.heap.get? C = some o) ∧
    Fr g env.locals s.heap m ∧ News g env.locals s.heap news ∧ (∀ y ∈ s.gens, y.bare = true) ∧ J 0 m ∧
    (∀ i n t h tk G m' led, ns[i]? = some n → J i m' → (∀ y ∈ G, y.bare = true) → Fr g env.locals h (fun z => if z = x then some (.int n t) else m' z) → News g env.locals h led →
      wpAny (model prog w) A (execs body env) (GiEnd g env.locals { s with heap := h, toks := tk, gens := G } led (J (i + 1)) Q) E { s with heap := h, toks := tk, gens := G }) ∧
    ∀ h tk G m', Fr g env.locals h m' → News g env.locals h news → J ns.length m' → (∀ y ∈ G, y.bare = true) → Q .next { s with heap := h, toks := tk, gens := G }
section
variable {prog : Program} {w : World} {A : Around} {E : Value → Shared → Prop} {s : Shared} {env : Env} {g : Heap} {Q : Flow → Shared → Prop}
theorem For_gi {x : Str} {px pos : Pos} {iter : PySem.Expr} {body : List Stmt} (hh : A.handled = none) (hlim : g.NoLimit) (hroom : A.depth < recursionLimit)
    (hx : env.kindOf x = some .local) (hp : (env.scope.kind == .class || (env.scope.kind == .module && env.locals != env.globals)) = false)
    (h : wpAny (model prog w) A (eval iter env) (GiSrc prog w A g env x body Q E) E s)
    (hs : ∀ x, foldedSetIterable iter env x = pure x := by intro _; rfl)
    (hE : PassesOwn (model prog w) A env E := by passes_own) :
    wpAny (model prog w) A (exec (.For (.Name x px) iter body [] pos) env) Q E s := by
  refine wpAny_For (wpAny_mono h (fun xv s₁ h₁ => ?_) fun _ _ e => e) hs
  obtain ⟨a, gn, C, I, sl, lo, ns, news, m, J, rfl, hat, hI, hLC, hCa, haI, hsl, hnews, hC, F, N, hG, h0, turn, done⟩ := h₁
  refine wpAny_pyIter_gen hat.1 ?_
  have hgC : ∀ b, env.locals ≤ b → g.get? b = none := fun b hb => by
    cases e : g.get? b with
    | none => rfl
    | some o => exact absurd (Heap.lt_size e) (Nat.not_lt.mpr (Nat.le_trans F.above hb))
  have hCI : C < I := Nat.lt_trans hCa haI
  have hLI : env.locals < I := Nat.lt_trans hLC hCI
  have hslC : sl < C := hnews _ hsl
  refine codeAny_forLoop_any
    (fun k s' => ∃ h' tk G i m', s' = { s₁ with heap := h', toks := tk, gens := G } ∧ i ≤ ns.length ∧ k = ns.length + 1 - i ∧ GiAt prog w A g a gn C I sl ns i s' ∧ (i = 0 → h'.objs.size = I) ∧ (∃ o, h'.get? C = some o) ∧
      Fr g env.locals h' m' ∧ News g env.locals h' news ∧ (∀ y ∈ G, y.bare = true) ∧ J i m') ?_ (ns.length + 1)
    ⟨s₁.heap, s₁.toks, s₁.gens, 0, m, rfl, Nat.zero_le _, rfl, hat, fun _ => hI, hC, F, N, hG, h0⟩
  rintro k s' ⟨h', tk, G, i, m', rfl, hi, rfl, ⟨hgen, gs, hgs, hgo⟩, hsz, hC', F', N', hG', hJ⟩
  have base : ∀ {h'' : Heap}, (∀ b o, b ≠ C → b ≠ I → h'.get? b = some o → h''.get? b = some o) → ∀ b o, g.get? b = some o → h''.get? b = some o := fun hk b o e =>
    hk b o (fun q => by rw [q, hgC C (Nat.le_of_lt hLC)] at e; cases e) (fun q => by rw [q, hgC I (Nat.le_of_lt hLI)] at e; cases e) (F'.keep b o e)
  have hgo' := hgo (({ s₁ with heap := h', toks := tk, gens := G } : Shared).setGen gn .running) (fun _ _ _ e => e) F'.keep hsz
  have frN : ∀ {h'' : Heap}, (∀ b o, b ≠ C → b ≠ I → h'.get? b = some o → h''.get? b = some o) → Fr g env.locals h'' m' ∧ News g env.locals h'' news := fun hk =>
    ⟨⟨F'.ns.at' fun o e => hk _ o (Nat.ne_of_lt hLC) (Nat.ne_of_lt hLI) e, base hk, F'.above⟩, fun p hp' => ⟨hk _ _ (Nat.ne_of_lt (hnews p hp')) (Nat.ne_of_lt (Nat.lt_trans (hnews p hp') hCI)) (N' p hp').1, (N' p hp').2⟩⟩
  refine next_gen (P := fun n s₀ s₁ => n = 0 ∧ GiSince C I s₀ s₁) hh (hlim.keeps F'.keep) hroom hgen hgs hgo' (fun v s₂ gs' hb hv => ?_) (fun s₂ hp' h'' hk'' => ?_)
  · obtain ⟨⟨n, t, hn, rfl⟩, ⟨⟨oC, hoC⟩, ⟨oI, hoI⟩⟩, ⟨h₂, tk₂, rfl, hk₂⟩, hkap⟩ := hv
    have hk₂' : ∀ b o, b ≠ C → b ≠ I → h'.get? b = some o → h₂.get? b = some o := hk₂
    have hlt : i < ns.length := by
      rcases Nat.lt_or_ge i ns.length with q | q
      · exact q
      · have e : ns.length - i = 0 := by omega
        rw [e] at hkap
        exact (hkap _ (fun _ _ _ e => e) (base hk₂')).elim
    obtain ⟨j, hj⟩ : ∃ j, ns.length - i = j + 1 := ⟨ns.length - i - 1, by omega⟩
    rw [hj] at hkap hn
    have hn' : ns[i]? = some n := by
      have e : ns.length - 1 - (j + 1 - 1) = i := by omega
      rw [e] at hn; exact hn
    dsimp only
    refine wpAny_of_eq (a := ()) rfl ?_
    obtain ⟨F₂, N₂⟩ := frN hk₂'
    have hG₂ : ∀ y ∈ (({ ({ s₁ with heap := h', toks := tk, gens := G } : Shared).setGen gn .running with heap := h₂, toks := tk₂ } : Shared).setGen gn gs').gens, y.bare = true :=
      (GenOnlyQ.of (g := gn) ((GenOnly.setGen ({ s₁ with heap := h', toks := tk, gens := G } : Shared) gn .running).trans (GenOnly.setGen ({ ({ s₁ with heap := h', toks := tk, gens := G } : Shared).setGen gn .running with heap := h₂, toks := tk₂ } : Shared) gn gs')) (setGen_self (gs := .running) (setGen_self hgs)) hb).bare hG'
    have hgs₂ : (({ ({ s₁ with heap := h', toks := tk, gens := G } : Shared).setGen gn .running with heap := h₂, toks := tk₂ } : Shared).setGen gn gs').gens[gn]? = some gs' := setGen_self (gs := .running) (setGen_self hgs)
    refine wpAny_assign_Name (wpAny_storeName_local hx F₂.ns (fun h₃ hn₃ hs₃ => ?_) hp)
    have up₃ : ∀ b o, b ≠ env.locals → h₂.get? b = some o → h₃.get? b = some o := fun b o hb' e => hs₃.extBut b o hb' e
    have F₃ : Fr g env.locals h₃ (fun z => if z = x then some (.int n t) else m' z) := F₂.set hn₃ hs₃
    have hC₃ := up₃ C oC (Nat.ne_of_gt hLC) hoC
    have hI₃ := up₃ I oI (Nat.ne_of_gt hLI) hoI
    obtain ⟨oa, nm, qn, hoa, hoac, hoad, hoas⟩ := hgen
    have hoa₂ := hk₂' a oa (Nat.ne_of_gt hCa) (Nat.ne_of_lt haI) hoa
    have ha₃ := up₃ a oa (Nat.ne_of_gt (Nat.lt_trans hLC hCa)) hoa₂
    have N₃ : News g env.locals h₃ ((C, oC) :: (I, oI) :: (a, oa) :: news) := by
      intro p hp'
      rcases List.mem_cons.mp hp' with rfl | hp'
      · exact ⟨hC₃, Nat.ne_of_gt hLC, hgC _ (Nat.le_of_lt hLC)⟩
      rcases List.mem_cons.mp hp' with rfl | hp'
      · exact ⟨hI₃, Nat.ne_of_gt hLI, hgC _ (Nat.le_of_lt hLI)⟩
      rcases List.mem_cons.mp hp' with rfl | hp'
      · exact ⟨ha₃, Nat.ne_of_gt (Nat.lt_trans hLC hCa), hgC _ (Nat.le_of_lt (Nat.lt_trans hLC hCa))⟩
      · exact N₂.set hs₃ p hp'
    refine wpAny_mono (wpAny_mono (turn i n t h₃ _ _ m' _ hn' hJ hG₂ F₃ N₃) (fun f s₄ h₄ => ?_) fun _ _ e => e) (fun _ _ e => e) hE
    cases f with
    | ret v => exact h₄
    | brk => exact h₄
    | next =>
      obtain ⟨h₄, tk₄, m₄, rfl, F₄, N₄, hJ₄⟩ := h₄
      have zC := (N₄ (C, oC) (.head _)).1
      have zI := (N₄ (I, oI) (.tail _ (.head _))).1
      have za := (N₄ (a, oa) (.tail _ (.tail _ (.head _)))).1
      have zs := (N₄ (sl, lo) (.tail _ (.tail _ (.tail _ hsl)))).1
      refine ⟨ns.length + 1 - (i + 1), by omega, h₄, tk₄, _, i + 1, m₄, rfl, hlt, rfl, ⟨⟨oa, nm, qn, za, hoac, hoad, hoas⟩, gs', hgs₂, fun s'' hal hbase _ => ?_⟩, fun q => absurd q (Nat.succ_ne_zero _), ⟨_, zC⟩, F₄, fun p hp' => N₄ p (.tail _ (.tail _ (.tail _ hp'))), hG₂, hJ₄⟩
      have e : ns.length - (i + 1) = j := by omega
      rw [e]
      refine hkap s'' (fun b hb' o q => hal b hb' o ?_) hbase
      have q' : h₂.get? b = some o := q
      rcases hb' with rfl | rfl | rfl
      · rw [hoC] at q'; cases q'; exact zC
      · rw [hoI] at q'; cases q'; exact zI
      · have := (N₂ _ hsl).1
        rw [this] at q'; cases q'; exact zs
    | cont =>
      obtain ⟨h₄, tk₄, m₄, rfl, F₄, N₄, hJ₄⟩ := h₄
      have zC := (N₄ (C, oC) (.head _)).1
      have zI := (N₄ (I, oI) (.tail _ (.head _))).1
      have za := (N₄ (a, oa) (.tail _ (.tail _ (.head _)))).1
      have zs := (N₄ (sl, lo) (.tail _ (.tail _ (.tail _ hsl)))).1
      refine ⟨ns.length + 1 - (i + 1), by omega, h₄, tk₄, _, i + 1, m₄, rfl, hlt, rfl, ⟨⟨oa, nm, qn, za, hoac, hoad, hoas⟩, gs', hgs₂, fun s'' hal hbase _ => ?_⟩, fun q => absurd q (Nat.succ_ne_zero _), ⟨_, zC⟩, F₄, fun p hp' => N₄ p (.tail _ (.tail _ (.tail _ hp'))), hG₂, hJ₄⟩
      have e : ns.length - (i + 1) = j := by omega
      rw [e]
      refine hkap s'' (fun b hb' o q => hal b hb' o ?_) hbase
      have q' : h₂.get? b = some o := q
      rcases hb' with rfl | rfl | rfl
      · rw [hoC] at q'; cases q'; exact zC
      · rw [hoI] at q'; cases q'; exact zI
      · have := (N₂ _ hsl).1
        rw [this] at q'; cases q'; exact zs
  · obtain ⟨hn0, h₂, tk₂, rfl, hk₂⟩ := hp'
    have hin : i = ns.length := by omega
    subst hin
    have hk₂' : ∀ b o, b ≠ C → b ≠ I → h'.get? b = some o → h''.get? b = some o := fun b o h1 h2 e => hk'' b o (hk₂ b o h1 h2 e)
    obtain ⟨F₂, N₂⟩ := frN hk₂'
    refine wpAny_execs_nil ?_
    refine done h'' tk₂ _ m' F₂ N₂ hJ ?_
    exact (GenOnlyQ.of (g := gn) ((GenOnly.setGen ({ s₁ with heap := h', toks := tk, gens := G } : Shared) gn .running).trans (GenOnly.setGen ({ ({ s₁ with heap := h', toks := tk, gens := G } : Shared).setGen gn .running with heap := h₂, toks := tk₂ } : Shared) gn .finished)) (setGen_self (gs := .running) (setGen_self hgs)) rfl).bare hG'
end
end Mine
end
theorem Mine.rs27 : True := by k_with_none; w_top off; trivial
section
open PySem PySem.W PyProof.Rows PySem.Calls PyProof.V PySem.Spec
set_option maxRecDepth 100000
set_option maxHeartbeats 8000000
namespace Mine
section
variable {prog : Program} {w : World} {A₀ A : Around} {s : Shared} {h₀ : Heap} {L : Addr} {m : Str → Option Value} {K : Frag} {p : Program} {loose : List Str} {mean : ExcName → Option Value} {mg mb : Str → Option Value}
/-- a generator function called: its frame and its object are made -/
theorem code_gen {R : Result → Shared → Prop} {name qual : Str} {params : Arguments} {body : List Stmt} {scope : Scope} {dV kV doc pm cdv ct oc : Value} {an od : Option Addr} {osl : Array (Option Value)} {f : Addr} {args : Args} {binds : List (Str × Value)}
    (F : Fr h₀ L s.heap m) (X₀ : K.In h₀) (T : Top p loose mean mg mb h₀)
    (ho : K.lookup f = some ⟨oc, od, .func (fnOf name qual params body scope dV kV doc pm an cdv ct), osl⟩) (hcd : codeIn K cdv qual = true) (hroom : A.depth < recursionLimit)
    (hbind : BindsTo s (fnOf name qual params body scope dV kV doc pm an cdv ct) args binds) (hloc : ∀ y ∈ binds, scope.names.lookup y.1 = some .local)
    (h : ∀ (h₁ : Heap) (tk : Nat) (nm qn : Value), h₁.Ns s.heap.objs.size (fun y => binds.reverse.lookup y) → (∀ b o, s.heap.get? b = some o → h₁.get? b = some o) → h₁.objs.size = s.heap.objs.size + 1 →
      R (.ok (.ret (.ref h₁.objs.size))) { s with gens := s.gens.push (.fresh (.func body (envOf qual scope s.heap.objs.size f cdv))), toks := tk, heap := h₁.push { cls := .type "generator", data := .fields #[.int s.gens.size 0, nm, qn] } })
    (hco : scope.isCoroutine = false) (hgen : scope.isGenerator = true) (hk : scope.kind = .function)
    (hcell : ∀ x ∈ scope.names, x.2 ≠ .cell) : codeAny (model prog w) A (.call (.ref f) args) R s := by
  have X := X₀.keeps F.keep
  refine codeAny_call_generator (fd := fnOf name qual params body scope dV kV doc pm an cdv ct) (body := body) hroom (X _ _ ho) rfl hco hgen rfl (codeRec_of X hcd) (hbind _ _ _ _ ?_)
  refine wpAny_newFunctionEnv hcell hloc (fun h₁ hns hsb => ⟨(T.nolimit.keeps F.keep).fresh _ hsb, ?_⟩) hk
  exact h h₁ _ _ _ hns (fun b o e => hsb.extBut b o (Nat.ne_of_lt (Heap.lt_size e)) (Heap.get?_push_of_some _ e)) (by rw [hsb.1, Heap.size_push])
end
end Mine
end
theorem Mine.rs28 : True := by k_with_none; w_top off; trivial
section
open PySem PySem.W PyProof.Rows PySem.Calls PyProof.V PySem.Spec
set_option maxRecDepth 100000
set_option maxHeartbeats 8000000
namespace Mine
theorem fillCtG5 : (fun (_ : OpenLaw) (_ : Params → Frag) => True) PySem.Challenge.rw_wo0061_01 KK := by
  k_fill
  trivial

theorem eq_no {w : World} {A : Around} {s : Shared} {E : Value → Shared → Prop} {a b : Int} {t u : Tok} {Q : Value → Shared → Prop} (hn : a ≠ b) (h : Q (.bool false) s) : wpAny (model P w) A (compareOp .Eq (.int a t) (.int b u)) Q E s := by
  refine eq_int ?_
  have e : (a == b) = false := beq_eq_false_iff_ne.mpr hn
  rw [e]
  exact h
noncomputable def QEnd (s : Shared) (f : Flow) (s' : Shared) : Prop := f = .next ∧ ∃ h' tk, s' = { s with heap := h', toks := tk } ∧ ∀ b o, s.heap.get? b = some o → h'.get? b = some o
theorem fr_pinX {g h : Heap} {L : Addr} {m : Str → Option Value} (F : Fr g L h m) (a : Str) (v : Value) (e : m a = some v) : ∃ u : Str → Option Value, Fr g L h (fun z => if z = a then some v else u z) := by
  refine ⟨m, ?_⟩
  have : (fun z => if z = a then some v else m z) = m := by
    funext z
    by_cases h : z = a
    · subst h; simp [e]
    · simp [h]
  rw [this]; exact F

theorem gi_ct {w : World} {mean : ExcName → Option Value} {mg mb : Str → Option Value} {ls : List Str} {news : List (Addr × Obj)} {dp un : Nat} {gd : Option (List Code)} {cn : Str} {cs : Scope} {a : Addr} {ccd : Value} {cl : List (Str × Addr)} {outer : List Env} {A₀ : Around} {base h₀ : Heap} {L : Addr} {m : Str → Option Value} {s : Shared} {Q E : Value → Shared → Prop} {sl : Addr} {us : List Value} {ns : List Int} {n0 : Nat}
    (k1 : Below A₀ base outer h₀) (k2 : Fr h₀ L s.heap m) (k3 : (KK w.params).In h₀) (k4 : News h₀ L s.heap news) (k5 : Top vw ls mean mg mb h₀) (kK : cs.kind = .function) (kd : dp + 4 < recursionLimit) (ku : un + 40 < cLine)
    (hsl : (sl, W.listOf us.toArray n0) ∈ news) (hi : IntsAre us ns) (hns : ∀ n ∈ ns, 0 < n ∧ n < 127) (hB : ∀ y ∈ s.gens, y.bare = true) (hh : (ktrTop dp un gd cn cs L a ccd cl outer).handled = none)
    (ret : ∀ (ad C : Addr) (gn : Nat) (h' : Heap) (tk' : Nat) (G : Array GenState), GiAt P w (ktrTop dp un gd cn cs L a ccd cl outer) h₀ ad gn C h'.objs.size sl ns 0 { s with heap := h', toks := tk', gens := G } → L < C → C < ad → ad < h'.objs.size → (∀ p ∈ news, p.1 < C) → (∃ o, h'.get? C = some o) → Fr h₀ L h' m → News h₀ L h' news → (∀ y ∈ G, y.bare = true) → Q (.ref ad) { s with heap := h', toks := tk', gens := G }) :
    wpAny (model P w) (ktrTop dp un gd cn cs L a ccd cl outer) (call (.ref 35) [.ref sl]) Q E s := by
  k_with_none
  (k_with "compareOp Eq int int" => (k_here; k_dflt (refine' eq_no ?a ?_; (case a => omega); k_whole)))
  refine wpAny_call ?_
  k_dflt (refine' code_gen ?k2 ?k3 ?k5 ?k6 ?k7 ?k8 ?k9 ?kB ?_ ?c2 ?c3 ?c4 ?c5; (case k2 => k_asm); (case k3 => k_asm); (case k5 => k_asm); (case k6 => k_is); (case k7 => k_is); (case k8 => ktr_room); (case k9 => exact BindsTo.of_eq rfl); (case c5 => decide); (case kB => exact locs rfl); (case c2 => exact rfl); (case c3 => exact rfl); (case c4 => exact rfl); k_whole; intro h₁ tk nm qn hNs hk₁ hsz)
  have zL := k2.ns.lt
  have hA : h₀.objs.size ≤ s.heap.objs.size := Nat.le_trans k2.above (Nat.le_of_lt zL)
  have up : ∀ (x : Obj) b o, s.heap.get? b = some o → (h₁.push x).get? b = some o := fun x b o e => Heap.get?_push_of_some _ (hk₁ b o e)
  refine ret _ s.heap.objs.size s.gens.size _ _ _ ⟨⟨_, nm, qn, Heap.get?_push_size _ rfl, rfl, rfl, rfl⟩, _, Array.getElem?_push_size .., fun s'' hal hb hz => ⟨rfl, ?_⟩⟩ zL (by rw [hsz]; exact Nat.lt_succ_self _) (by rw [Heap.size_push]; exact Nat.lt_succ_self _) (fun p hp => Heap.lt_size (k4 p hp).1) (let ⟨o, _, _, e, _⟩ := hNs; ⟨o, Heap.get?_push_of_some _ e⟩)
    (k2.keeps (up _)) (k4.grown (up _)) ?_
  · show Seg (model P w) _ _ _ ns.length s'' _ _ [] s''
    k_dflt (refine' seg_giStart (x := Str.ofString "interval") (y := Str.ofString "grouping") (us := us) ?hC ?h1 ?h2 ?h3 ?h4 ?h5 ?h6 ?h7 ?h8 ?h9 ?h10 ?h11 ?h12 ?q0 ?q1 ?q2 ?q4 s'' _ ?n1 ?n2 ?n3 ?n4 ?n5)
    case n1 => exact (hNs.push _).at' fun o e => hal _ (.inl rfl) o e
    case hC => rfl
    case h1 => exact hh
    case h2 => exact hi
    case h4 => exact Heap.get?_none_of_le hA
    case h5 => rfl
    case h6 => rfl
    case h7 => rfl
    case h8 => rfl
    case h9 => rfl
    case h10 => rfl
    case h11 => rfl
    case h12 => rfl
    case n2 => rfl
    case n4 => exact hz rfl
    case n5 => exact hb
    case n3 => exact ⟨_, hal sl (.inr (.inr rfl)) _ (up _ _ _ (k4 _ hsl).1), rfl, _, rfl⟩
    case h3 => exact Ne.symm (Nat.ne_of_lt (Heap.lt_size (k4 _ hsl).1))
    case q0 =>
      intro A' E' v s₂ m₂ hn₂ hm₂
      refine wpAny_Assign_Name (wpAny_Constant_none (wpAny_storeName_local (by rfl) hn₂ (fun h' hn' hs => ?_) (by rfl)))
      refine ⟨rfl, h', _, _, rfl, hn', ?_, hs.1, fun b o hb e => hs.extBut b o hb e⟩
      show (if (Str.ofString "grouping") = Str.ofString "last_interval" then _ else m₂ _) = some v
      rw [if_neg (by decide)]; exact hm₂
    case q4 =>
      intro A' E' n t s₂ m₂ hn₂ hm₂
      refine wpAny_Assign_Name (wpAny_Name (wpAny_loadName_local (by rfl) (by rfl) hn₂ hm₂ (wpAny_storeName_local (by rfl) hn₂ (fun h' hn' hs => ?_) (by rfl))) (by rfl))
      exact ⟨rfl, h', _, _, rfl, hn', fun b o hb e => hs.extBut b o hb e⟩
    case q1 =>
      intro A' E' n t s₂ m₂ hmem hn₂ hm₂ hb₂
      have hn0 := (hns n hmem).1
      have hn1 := (hns n hmem).2
      have FF := fr_pinX (Fr.mk hn₂ hb₂ hA) (Str.ofString "interval") _ hm₂
      clear hn₂ hm₂ ret hal hb hz hNs hk₁ k2 k4 up hsl
      obtain ⟨u, FF⟩ := FF
      have NN : News h₀ s.heap.objs.size s₂.heap [] := News.nil
      show wpAny _ A' _ (QEnd s₂) E' s₂
      k_steps
      exact ⟨rfl, _, _, rfl, fun _ _ e => e⟩
    case q2 =>
      intro A' E' n t s₂ m₂ hmem hn₂ hm₂ hb₂
      have hn0 := (hns n hmem).1
      have hn1 := (hns n hmem).2
      have FF := fr_pinX (Fr.mk hn₂ hb₂ hA) (Str.ofString "interval") _ hm₂
      clear hn₂ hm₂ ret hal hb hz hNs hk₁ k2 k4 up hsl
      obtain ⟨u, FF⟩ := FF
      have NN : News h₀ s.heap.objs.size s₂.heap [] := News.nil
      show wpAny _ A' _ (QEnd s₂) E' s₂
      k_steps
      exact ⟨rfl, _, _, rfl, fun _ _ e => e⟩
  · intro y hy
    rcases Array.mem_push.mp hy with h | rfl
    · exact hB y h
    · rfl


end Mine
end
theorem Mine.rs29 : True := by k_with_none; w_top off; trivial
section
open PySem PySem.W PyProof.Rows PySem.Calls PyProof.V PySem.Spec PyProof
set_option maxRecDepth 100000
set_option maxHeartbeats 8000000
namespace Mine
abbrev nSize := Str.ofString "size"
abbrev nPlace := Str.ofString "place"
abbrev nTurned := Str.ofString "turned"
noncomputable def wvStep (x : Str) (st : Str × Int) (n : Int) : Str × Int := (st.1 ++ (Txt.item x (st.2 + n - 1) ++ Txt.slice x (some (st.2 + n - n)) (some (st.2 + n - 1))), st.2 + n)
theorem wvStep_len (x : Str) (st : Str × Int) (n : Int) : (wvStep x st n).1.length ≤ st.1.length + 1 + x.length := by
  unfold wvStep
  rw [PySem.Str.length_append, PySem.Str.length_append]
  have h1 : (Txt.item x (st.2 + n - 1)).length = 1 := rfl
  have h2 := Txt.slice_le x (some (st.2 + n - n)) (some (st.2 + n - 1))
  omega
theorem wv_place (x : Str) : ∀ (zs : List Int) (st : Str × Int), (zs.foldl (wvStep x) st).2 = st.2 + zs.sum
  | [], st => by simp
  | z :: zs, st => by
    rw [List.foldl_cons, wv_place x zs, List.sum_cons]
    show st.2 + z + zs.sum = _
    omega
/-- a turn's end of the loop over the sizes -/
noncomputable def WvEnd (g : Heap) (L : Addr) (s : Shared) (led : List (Addr × Obj)) (x : Str) (tx : Tok) (st : Str × Int) (Q : Flow → Shared → Prop) (f : Flow) (s₂ : Shared) : Prop :=
  match f with
  | .ret v => Q (.ret v) s₂
  | .brk => Q .next s₂
  | _ => ∃ h' tk m' tt tp, s₂ = { s with heap := h', toks := tk } ∧ Fr g L h' m' ∧ News g L h' led ∧ m' nTurned = some (.str st.1 tt) ∧ m' nPlace = some (.int st.2 tp) ∧ m' nWoven = some (.str x tx)
theorem WvEnd.intro {g h' : Heap} {L : Addr} {s : Shared} {led : List (Addr × Obj)} {x : Str} {tx tt tp : Tok} {st : Str × Int} {tk : Nat} {m' : Str → Option Value} {Q : Flow → Shared → Prop}
    (F : Fr g L h' m') (N : News g L h' led) (e1 : m' nTurned = some (.str st.1 tt)) (e2 : m' nPlace = some (.int st.2 tp)) (e3 : m' nWoven = some (.str x tx)) : WvEnd g L s led x tx st Q .next { s with heap := h', toks := tk } :=
  ⟨h', tk, m', tt, tp, rfl, F, N, e1, e2, e3⟩
section
variable {prog : Program} {w : World} {A : Around} {E : Value → Shared → Prop} {s : Shared} {env : Env} {g : Heap} {Q : Flow → Shared → Prop}
theorem weave_src {body : List Stmt} {zl ad C : Addr} {gn : Nat} {lo : Obj} {zs : List Int} {m : Str → Option Value} {x : Str} {tx t0 t1 : Tok} {news : List (Addr × Obj)}
    (hat : GiAt prog w A g ad gn C s.heap.objs.size zl zs 0 s) (h1 : env.locals < C) (h2 : C < ad) (h3 : ad < s.heap.objs.size) (h4 : ∀ p ∈ news, p.1 < C) (hC : ∃ o, s.heap.get? C = some o)
    (F : Fr g env.locals s.heap m) (N : News g env.locals s.heap news) (hB : ∀ y ∈ s.gens, y.bare = true) (hsl : (zl, lo) ∈ news)
    (e1 : m nTurned = some (.str (Str.ofString "") t0)) (e2 : m nPlace = some (.int 0 t1)) (e3 : m nWoven = some (.str x tx)) (hx : x.length ≤ 6)
    (hsum : ∀ i n, zs[i]? = some n → 0 < n ∧ 0 ≤ (zs.take i).sum ∧ (zs.take i).sum + n ≤ x.length)
    (turn : ∀ (n : Int) (t : Tok) (tu : Str) (tt : Tok) (pl : Int) (tp : Tok) (u : Str → Option Value) h tk G led, 0 < n → 0 ≤ pl → pl + n ≤ x.length → tu.length ≤ 1000 →
      Fr g env.locals h (fun z => if z = nSize then some (.int n t) else if z = nTurned then some (.str tu tt) else if z = nPlace then some (.int pl tp) else if z = nWoven then some (.str x tx) else u z) → News g env.locals h led →
      wpAny (model prog w) A (execs body env) (WvEnd g env.locals { s with heap := h, toks := tk, gens := G } led x tx (wvStep x (tu, pl) n) Q) E { s with heap := h, toks := tk, gens := G })
    (done : ∀ h tk G (tu : Str) (tt : Tok) (pl : Int) (tp : Tok) (u : Str → Option Value), (tu, pl) = zs.foldl (wvStep x) (Str.ofString "", 0) → tu.length ≤ 1000 → (∀ y ∈ G, y.bare = true) →
      Fr g env.locals h (fun z => if z = nTurned then some (.str tu tt) else if z = nPlace then some (.int pl tp) else if z = nWoven then some (.str x tx) else u z) → News g env.locals h news → Q .next { s with heap := h, toks := tk, gens := G }) :
    GiSrc prog w A g env nSize body Q E (.ref ad) s := by
  have hcount : ∀ i, i ≤ zs.length → (i : Int) ≤ (zs.take i).sum := by
    intro i
    induction i with
    | zero => intro _; simp
    | succ i ih =>
      intro hi
      have hlt : i < zs.length := hi
      have h := ih (Nat.le_of_lt hlt)
      have hz := (hsum i _ (List.getElem?_eq_getElem hlt)).1
      rw [List.take_add_one, List.getElem?_eq_getElem hlt]
      simp only [Option.toList, List.sum_append, List.sum_cons, List.sum_nil]
      omega
  have hlen : zs.length ≤ 6 := by
    rcases Nat.eq_zero_or_pos zs.length with e | e
    · omega
    · have hlt : zs.length - 1 < zs.length := by omega
      have h := hcount (zs.length - 1) (Nat.le_of_lt hlt)
      have hz := hsum (zs.length - 1) _ (List.getElem?_eq_getElem hlt)
      omega
  refine ⟨ad, gn, C, _, zl, lo, zs, news, m, fun i m' => i ≤ zs.length ∧ ∃ tu tt pl tp, (tu, pl) = (zs.take i).foldl (wvStep x) (Str.ofString "", 0) ∧ tu.length ≤ 7 * i ∧ m' nTurned = some (.str tu tt) ∧ m' nPlace = some (.int pl tp) ∧ m' nWoven = some (.str x tx),
    rfl, hat, rfl, h1, h2, h3, hsl, h4, hC, F, N, hB, ⟨Nat.zero_le _, _, t0, 0, t1, rfl, by decide +kernel, e1, e2, e3⟩, ?_, ?_⟩
  · rintro i n t h tk G m' led hn ⟨_, tu, tt, pl, tp, hst, hl, f1, f2, f3⟩ hG F' N'
    have hlt : i < zs.length := (List.getElem?_eq_some_iff.mp hn).1
    have hs := hsum i n hn
    have hpl : pl = (zs.take i).sum := by
      have := wv_place x (zs.take i) (Str.ofString "", 0)
      rw [← hst] at this
      simpa using this
    have F'' := F'
    rw [pin5 (m := fun z => if z = nSize then some (.int n t) else m' z) (a := nSize) (b := nTurned) (c := nPlace) (d := nWoven) (e := nWoven) (va := .int n t) (vb := .str tu tt) (vc := .int pl tp) (vd := .str x tx) (ve := .str x tx) (if_pos rfl)
      (by show (if nTurned = nSize then _ else m' nTurned) = _; rw [if_neg (by decide)]; exact f1) (by show (if nPlace = nSize then _ else m' nPlace) = _; rw [if_neg (by decide)]; exact f2)
      (by show (if nWoven = nSize then _ else m' nWoven) = _; rw [if_neg (by decide)]; exact f3) (by show (if nWoven = nSize then _ else m' nWoven) = _; rw [if_neg (by decide)]; exact f3)] at F''
    refine wpAny_mono (turn n t tu tt pl tp _ h tk G led hs.1 (by omega) (by omega) (by omega) F'' N') (fun f s₂ q => ?_) fun _ _ e => e
    have hst' : wvStep x (tu, pl) n = (zs.take (i + 1)).foldl (wvStep x) (Str.ofString "", 0) := by
      rw [List.take_add_one, hn]
      simp only [Option.toList, List.foldl_append, List.foldl_cons, List.foldl_nil]
      rw [← hst]
    have hl' := wvStep_len x (tu, pl) n
    have hl'' : (wvStep x (tu, pl) n).1.length ≤ 7 * (i + 1) := by
      have : (tu, pl).1.length = tu.length := rfl
      omega
    cases f with
    | ret v => exact q
    | brk => exact q
    | next =>
      obtain ⟨h₃, tk₃, m₃, tt₃, tp₃, rfl, F₃, N₃, f1, f2, f3⟩ := q
      exact ⟨h₃, tk₃, m₃, rfl, F₃, N₃, hlt, _, tt₃, _, tp₃, hst', hl'', f1, f2, f3⟩
    | cont =>
      obtain ⟨h₃, tk₃, m₃, tt₃, tp₃, rfl, F₃, N₃, f1, f2, f3⟩ := q
      exact ⟨h₃, tk₃, m₃, rfl, F₃, N₃, hlt, _, tt₃, _, tp₃, hst', hl'', f1, f2, f3⟩
  · rintro h tk G m' F' N' ⟨_, tu, tt, pl, tp, hst, hl, f1, f2, f3⟩ hG
    rw [List.take_of_length_le (Nat.le_refl _)] at hst
    rw [pin5 (a := nTurned) (b := nPlace) (c := nWoven) (d := nWoven) (e := nWoven) f1 f2 f3 f3 f3] at F'
    exact done h tk G tu tt pl tp _ hst (by omega) hG F' N'
end
end Mine
end
theorem Mine.rs30 : True := by k_with_none; w_top off; trivial
section
open PySem PySem.W PyProof.Rows PySem.Calls PyProof.V PySem.Spec PyProof
set_option maxRecDepth 100000
set_option maxHeartbeats 8000000
namespace Mine
theorem mk_facts (last : Int) : ∀ (ns : List Int) (st : List Int × Int), (∀ z ∈ st.1, 0 < z) → 0 ≤ st.2 →
    (∀ z ∈ (ns.foldl (mkStep last) st).1, 0 < z) ∧ 0 ≤ (ns.foldl (mkStep last) st).2 ∧ (ns.foldl (mkStep last) st).1.sum + (ns.foldl (mkStep last) st).2 = st.1.sum + st.2 + ns.length
  | [], st, h1, h2 => ⟨h1, h2, by simp⟩
  | n :: ns, st, h1, h2 => by
    rw [List.foldl_cons]
    have k : (∀ z ∈ (mkStep last st n).1, 0 < z) ∧ 0 ≤ (mkStep last st n).2 ∧ (mkStep last st n).1.sum + (mkStep last st n).2 = st.1.sum + st.2 + 1 := by
      unfold mkStep
      split
      · refine ⟨fun z hz => ?_, by simp, by simp [List.sum_append]; omega⟩
        rcases List.mem_append.mp hz with hz | hz
        · exact h1 z hz
        · have := List.mem_singleton.mp hz; omega
      · exact ⟨h1, by show 0 ≤ st.2 + 1; omega, by show st.1.sum + (st.2 + 1) = _; omega⟩
    obtain ⟨k1, k2, k3⟩ := k
    obtain ⟨r1, r2, r3⟩ := mk_facts last ns _ k1 k2
    refine ⟨r1, r2, ?_⟩
    rw [r3, k3, List.length_cons]
    push_cast
    omega
theorem sum_pos : ∀ (zs : List Int), (∀ z ∈ zs, 0 < z) → 0 ≤ zs.sum
  | [], _ => by simp
  | z :: zs, h => by
    rw [List.sum_cons]
    have h1 := h z (List.mem_cons_self ..)
    have h2 := sum_pos zs fun y hy => h y (List.mem_cons_of_mem _ hy)
    omega
theorem prefix_sum : ∀ (zs : List Int) (i : Nat) (n : Int), (∀ z ∈ zs, 0 < z) → zs[i]? = some n → 0 < n ∧ 0 ≤ (zs.take i).sum ∧ (zs.take i).sum + n ≤ zs.sum
  | [], _, _, _, h => by simp at h
  | z :: zs, 0, n, hp, h => by
    have e : z = n := by simpa using h
    subst e
    have h2 := sum_pos zs fun y hy => hp y (List.mem_cons_of_mem _ hy)
    refine ⟨hp z (List.mem_cons_self ..), by simp, ?_⟩
    rw [List.sum_cons]; simp; omega
  | z :: zs, i + 1, n, hp, h => by
    have h1 := hp z (List.mem_cons_self ..)
    obtain ⟨a, b, c⟩ := prefix_sum zs i n (fun y hy => hp y (List.mem_cons_of_mem _ hy)) (by simpa using h)
    rw [List.take_succ_cons, List.sum_cons, List.sum_cons]
    exact ⟨a, by omega, by omega⟩
theorem weave_sums {last : Int} {ns zs : List Int} {many : Int} {l : Nat} (h : (zs, many) = ns.foldl (mkStep last) ([], 0)) (hl : ns.length = l) : ∀ i n, zs[i]? = some n → 0 < n ∧ 0 ≤ (zs.take i).sum ∧ (zs.take i).sum + n ≤ l := by
  have k := mk_facts last ns ([], 0) (fun _ h => nomatch h) (Int.le_refl 0)
  rw [← h] at k
  obtain ⟨k1, k2, k3⟩ := k
  intro i n hn
  obtain ⟨a, b, c⟩ := prefix_sum zs i n k1 hn
  refine ⟨a, b, ?_⟩
  have k3' : zs.sum + many = 0 + 0 + (ns.length : Int) := by simpa using k3
  have k2' : 0 ≤ many := k2
  omega
theorem weave_range {last : Int} {ns zs : List Int} {many : Int} {l : Nat} (h : (zs, many) = ns.foldl (mkStep last) ([], 0)) (hl : ns.length = l) (h6 : l ≤ 6) : ∀ n ∈ zs, 0 < n ∧ n < 127 := by
  intro n hn
  obtain ⟨i, hi⟩ := List.getElem?_of_mem hn
  obtain ⟨a, b, c⟩ := weave_sums h hl i n hi
  exact ⟨a, by omega⟩
end Mine
end
theorem Mine.rs31 : True := by k_with_none; w_top off; trivial
section
open PySem PySem.W PyProof.Rows PySem.Calls PyProof.V PySem.Spec
set_option maxRecDepth 100000
set_option maxHeartbeats 8000000
namespace Mine
theorem fillCtW : (fun (_ : OpenLaw) (_ : Params → Frag) => True) PySem.Challenge.rw_wo0061_01 KK := by
  k_fill
  trivial

theorem fr_pin1 {g h : Heap} {L : Addr} {m : Str → Option Value} (F : Fr g L h m) (a : Str) (v : Value) (e : m a = some v) : ∃ u : Str → Option Value, Fr g L h (fun z => if z = a then some v else u z) := by
  refine ⟨m, ?_⟩
  have : (fun z => if z = a then some v else m z) = m := by
    funext z
    by_cases h : z = a
    · subst h; simp [e]
    · simp [h]
  rw [this]; exact F

/-- the woven row with one more letter -/
noncomputable def weaveS (x y : Str) : Str := (((x.cps.toList.map (fun c => cmpS y ⟨#[c]⟩)).foldl (mkStep ((x.cps.toList.map (fun c => cmpS y ⟨#[c]⟩)).getD (-1 + ((x.cps.toList.map (fun c => cmpS y ⟨#[c]⟩)).length : Int)).toNat 0)) ([], 0)).1.foldl (wvStep x) (Str.ofString "", 0)).1 ++ y

theorem weave_ct {w : World} {mean : ExcName → Option Value} {mg mb : Str → Option Value} {ls : List Str} {news : List (Addr × Obj)} {dp un : Nat} {gd : Option (List Code)} {cn : Str} {cs : Scope} {a : Addr} {ccd : Value} {cl : List (Str × Addr)} {outer : List Env} {A₀ : Around} {base h₀ : Heap} {L : Addr} {m : Str → Option Value} {s : Shared} {Q E : Value → Shared → Prop} {x y : Str} {tx ty : Tok}
    (k1 : Below A₀ base outer h₀) (k2 : Fr h₀ L s.heap m) (k3 : (KK w.params).In h₀) (k4 : News h₀ L s.heap news) (k5 : Top vw ls mean mg mb h₀) (kK : cs.kind = .function) (kd : dp + 10 < recursionLimit) (ku : un + 100 < cLine)
    (hx : x.length ≤ 6) (hy : y.length = 1) (hB : ∀ y ∈ s.gens, y.bare = true)
    (ret : ∀ (t : Tok) (h' : Heap) (tk' : Nat) (G : Array GenState), (∀ y ∈ G, y.bare = true) → Fr h₀ L h' m → News h₀ L h' news → Q (.str (weaveS x y) t) { s with heap := h', toks := tk', gens := G }) :
    wpAny (model P w) (ktrTop dp un gd cn cs L a ccd cl outer) (call (.ref 165) [.str x tx, .str y ty]) Q E s := by
  k_with_none
  (k_with "exec Assign cons ListComp" => (k_here; k_dflt (refine Assign_ListComp_S (by k_asm) (by rfl) (by rfl) (by with_unfolding_all rfl) (by with_unfolding_all rfl) (by decide) (by rfl) (by decide) (by rfl) (by rfl) (by rfl) ?_)))
  (k_with "call builtin:list.append" => (k_here; (with_reducible show wpAny _ _ (call (Value.builtin _) [Value.ref _, _]) _ _ _); k_dflt (refine' append_K ?k1 ?k2 ?k3 ?_ ?z; (case k1 => k_asm); (case k2 => k_asm); (case k3 => k_upd); (case z => assumption); k_whole); intro h'zz F'zz N'zz; (try k_sweep)))
  (k_with "exec For Name Name cons nil" => (k_here; k_dflt (refine For_list (by k_asm) (by rfl) (by rfl) (by rfl) ?_)))
  (k_with "exec For Name Call cons nil" => (k_here; k_dflt (refine' For_gi ?hh ?hl ?hr ?hx ?hp ?_; (case hh => exact rfl); (case hl => exact Top.nolimit (by assumption)); (case hr => ktr_room); (case hx => exact rfl); (case hp => exact rfl))))
  (k_with "subscriptTail" => (k_here; (with_reducible show wpAny _ _ (subscriptTail _ _ (Value.ref _) (Value.int _ _)) _ _ _); k_dflt (refine' last_item ?N ?M ?I ?P ?_; (case N => k_asm); (case M => k_mem); (case I => assumption); (case P => assumption); k_whole); intro _))
  (k_with "call ref" => (k_here; k_dflt (refine' concat_ct ?k1 ?k2 ?k3 ?k4 ?k5 ?kK ?kd ?ku ?hlen ?_; (case k1 => k_asm); (case k2 => k_asm); (case k3 => k_asm); (case k4 => k_asm); (case k5 => k_asm); (case kK => first | exact rfl | assumption); (case kd => ktr_room); (case ku => ktr_units); (case hlen => first | omega | (simp only [PySem.Str.length_append, PyProof.Rows.len_item]; omega) | (have hslzz := Txt.slice_le x; simp only [PySem.Str.length_append, PyProof.Rows.len_item]; omega)); k_whole); intro t'zz h'zz tk'zz F'zz N'zz; (try k_sweep); (try dsimp only); (try k_fold)))
  (k_with "call ref" => (k_here; k_dflt (refine' gi_ct ?k1 ?k2 ?k3 ?k4 ?k5 ?kK ?kd ?ku ?hsl ?hi ?hns ?hB ?hh ?_; (case k1 => k_asm); (case k2 => k_asm); (case k3 => k_asm); (case k4 => k_asm); (case k5 => k_asm); (case kK => first | exact rfl | assumption); (case kd => ktr_room); (case ku => ktr_units); (case hsl => k_mem); (case hi => assumption); (case hns => assumption); (case hB => assumption); (case hh => exact rfl); k_whole); intro ad'zz C'zz gn'zz h'zz tk'zz G'zz hat'zz q1'zz q2'zz q3'zz q4'zz q5'zz F'zz N'zz hB'zz; (try k_sweep); (try dsimp only); (try k_fold)))
  (k_with "call ref" => (k_here; k_dflt (refine' strcoll_ct ?k1 ?k2 ?k3 ?k4 ?k5 ?kK ?kd ?ku  ?_; (case k1 => k_asm); (case k2 => k_asm); (case k3 => k_asm); (case k4 => k_asm); (case k5 => k_asm); (case kK => first | exact rfl | assumption); (case kd => ktr_room); (case ku => ktr_units); k_whole); intro t'zz h'zz tk'zz F'zz N'zz; (try k_sweep); (try dsimp only); (try k_fold)))
  refine wpAny_call ?_
  k_dflt (refine' code_ownC [] ?kO ?k1 ?k2 ?k3 ?k4 ?k5 ?kA ?kF ?kK ?k6 ?k7 ?k8 ?k9 ?kB ?kD ?_ ?c2 ?c3 ?c4; (case kO => intro q hq; cases hq); (case kA => exact rfl); (case kF => exact rfl); (case kK => assumption); (case k1 => k_asm); (case k2 => k_asm); (case k3 => k_asm); (case k4 => k_asm); (case k5 => k_asm); (case k6 => k_is); (case k7 => k_is); (case k8 => ktr_room); (case k9 => exact BindsTo.of_eq rfl); (case kB => exact rfl); (case kD => decide +kernel); (case c2 => exact rfl); (case c3 => exact rfl); (case c4 => exact rfl); k_whole; intro g' L' h' tk' cells' hG' FG' F' N' Y' B' X' T' l1; (try k_lt l1); k_cells Y'; (try simp only [List.cons_append, List.nil_append] at N'); (try dsimp only); (try k_lift B'); (try k_fold))
  (rename Fr g' L' _ _ => FF)
  have FP := fr_pin1 FF (Str.ofString "woven") (.str x tx) (by rfl)
  clear FF
  obtain ⟨u, FF⟩ := FP
  k_steps
  k_dflt (refine TextSrc.intro (by k_asm) (by k_asm) (by rw [PySem.sizeLine_eq]; omega) fun gg => ?_)
  k_dflt (refine comp_ints (fun c => cmpS y ⟨#[c]⟩) ?turn ?fin)
  case turn =>
    intro c' u' I' oI' C' oC' D' m' ys' h' tk' E' hc' hC' hx' F' N' off' ne'
    k_steps
    exact ⟨_, _, _, rfl, rfl, by assumption, by assumption⟩
  case fin =>
    intro ys' hI'
    k_steps
    k_dflt (refine marks_src ((x.cps.toList.map (fun c => cmpS y ⟨#[c]⟩)).getD (-1 + ((x.cps.toList.map (fun c => cmpS y ⟨#[c]⟩)).length : Int)).toNat 0) (by k_asm) (by k_asm) hI' (by rfl) (by rfl) (by rfl) (by rfl) ?mturn ?mdone)
    case mturn =>
      intro n' t' arr' zs' many' tm' kz' u' h' tk' I' oI' hm' ha' hz' hpos' n1' n2' n3' F' N'
      have hzz : (List.toArray arr').size ≤ sizeLine := by
        have hml : (x.cps.toList.map (fun c => cmpS y ⟨#[c]⟩)).length = x.length := by simp [PySem.Str.length]
        rw [List.size_toArray, IntsAre.length ha', PySem.sizeLine_eq]
        omega
      k_steps
      all_goals (try simp only [decide_eq_true_eq, decide_eq_false_iff_not, beq_iff_eq] at *)
      · exact MkEnd.yes (by assumption) (by assumption) ha' (by assumption) (by with_unfolding_all rfl) (by with_unfolding_all rfl) (by with_unfolding_all rfl) (by with_unfolding_all rfl)
      · exact MkEnd.no (by assumption) (by assumption) ha' (by assumption) (by with_unfolding_all rfl) (by with_unfolding_all rfl) (by with_unfolding_all rfl) (by with_unfolding_all rfl)
    case mdone =>
      intro h' tk' arr' zs' many' tm' kz' u' hst' ha' F' N'
      have hml : (x.cps.toList.map (fun c => cmpS y ⟨#[c]⟩)).length = x.length := by simp [PySem.Str.length]
      have hsum' := weave_sums hst' hml
      have hrng' := weave_range hst' hml hx
      k_steps
      k_dflt (refine weave_src (x := x) (by assumption) (by assumption) (by assumption) (by assumption) (by assumption) (by assumption) (by k_asm) (by k_asm) (by assumption) (by k_mem) (by rfl) (by rfl) (by rfl) hx hsum' ?gturn ?gdone)
      case gturn =>
        intro n' t' tu' tt' pl' tp' u' h' tk' G' led' hn0' hp0' hpn' hl' F' N'
        have hlen1 := hl'
        k_steps
        exact WvEnd.intro (by assumption) (by assumption) (by with_unfolding_all rfl) (by with_unfolding_all rfl) (by with_unfolding_all rfl)
      case gdone =>
        intro h' tk' G' tu' tt' pl' tp' u' hst2' hl' hG2' F' N'
        k_steps
        have e : tu' ++ y = weaveS x y := by
          unfold weaveS
          rw [← hst', ← hst2']
        rw [e]
        exact ret _ _ _ _ hG2' (by assumption) (tail_back k4 hG' (by assumption) (by assumption) (fun q hq => nomatch hq))


end Mine
end
theorem Mine.rs32 : True := by k_with_none; w_top off; trivial
section
open PySem PySem.W PyProof.Rows PySem.Calls PyProof.V PySem.Spec
set_option maxRecDepth 100000
set_option maxHeartbeats 8000000
namespace Mine
section
variable {prog : Program} {w : World} {A : Around} {E : Value → Shared → Prop} {s : Shared} {h₀ : Heap} {L D : Addr} {m : Str → Option Value} {news news' : List (Addr × Obj)} {n : Nat}
theorem set_neg {l : Addr} {items : Array Value} {t : Tok} {v : Value} {Q : Unit → Shared → Prop} (ho : s.heap.get? l = some (W.listOf items n)) (hpos : 0 < items.size)
    (hQ : Q () { s with heap := s.heap.update l (Obj.mapSeq (·.setIfInBounds (items.size - 1) v)) }) : wpAny (model prog w) A (setItem (.ref l) (.int (-1) t) v) Q E s := by
  have hl : s.heap.IsList l items := PySem.IsL.isList (n := n) ho
  unfold setItem
  try with_reducible refine wpAny_holding ?_
  first | refine wpAny_bind (wpAny_pure ?_) | skip
  refine wpAny_bind (wpAny_sequenceKey hl.typeIs (by decide) ?_)
  refine wpAny_bind (wpAny_callSpecial?_slot (name := Str.ofString "__setitem__") hl.typeIs slot_list_setitem
    (wpAny_call_entry slot_list_setitem hl.typeIs entry_list_setitem ?_ (args_list_setitem _ _ _)))
  show wpAny _ _ (Builtin.List.listSubscript? (.int (-1) t) >>= _) _ _ s
  refine wpAny_bind (wpAny_listSubscript_int (fitsIndex_neg (by decide) (by decide)) ?_)
  have hidx := seqIndex_neg (k := -1) (n := items.size) (by decide) (by omega)
  have e : (-1 + (items.size : Int)).toNat = items.size - 1 := by omega
  rw [e] at hidx
  have hj : items.size - 1 < items.size := by omega
  have hx' : items[items.size - 1]? = some items[items.size - 1] := Array.getElem?_eq_getElem hj
  show wpAny _ _ ((Builtin.List.listItems (.ref l) >>= fun xs => pure ((seqIndex? (-1) xs.size).bind fun i => xs[i]?.map (i, ·))) >>= _) _ _ s
  refine wpAny_bind (wpAny_bind ?_)
  show wpAny _ _ (seqItems? (.ref l) >>= _) _ _ s
  refine wpAny_bind (wpAny_seqItems ho rfl (wpAny_pure (wpAny_pure ?_)))
  rw [hidx]
  simp only [Option.bind_some, hx', Option.map_some]
  show wpAny _ _ (setSeqItemAt l (items.size - 1) v >>= _) _ _ s
  refine wpAny_bind (wpAny_setSeqItemAt ho rfl ?_)
  first
    | exact wpAny_bind (wpAny_pure (wpAny_pure ⟨.none, rfl, wpAny_pure hQ⟩))
    | exact wpAny_pure ⟨.none, rfl, wpAny_pure hQ⟩
theorem set_last {vs : List Value} {ns : List Int} {x : Int} {t u : Tok} {Q : Unit → Shared → Prop} (F : Fr h₀ L s.heap m) (N : News h₀ L s.heap news) (U : Upd D (W.listOf (List.toArray vs) n) (W.listOf (List.toArray (vs.set (vs.length - 1) (.int x u))) n) news news') (hi : IntsAre vs ns) (hpos : 0 < ns.length)
    (h : ∀ h', Fr h₀ L h' m → News h₀ L h' news' → Q () { s with heap := h' }) :
    wpAny (model prog w) A (setItem (.ref D) (.int (-1) t) (.int x u)) Q E s := by
  obtain ⟨pre, post, rfl, rfl, a, b⟩ := U.split
  have z := N (D, W.listOf (List.toArray vs) n) (List.mem_append.mpr (.inr (.head _)))
  have hl : vs.length = ns.length := hi.length
  refine set_neg z.1 (by rw [List.size_toArray]; omega) (h _ (F.change (Heap.SameBut.update ..) z.2.1 z.2.2) (ki_turn _ N a b ?_ ?_))
  · show (List.toArray vs).setIfInBounds ((List.toArray vs).size - 1) (.int x u) = (vs.set (vs.length - 1) (.int x u)).toArray
    apply Array.toList_inj.mp
    simp
  · simp
end

abbrev nRest := Str.ofString "rest"
noncomputable def unStep (first : Int) (zs : List Int) (mark : Int) : List Int := if mark = first then zs ++ [1] else zs.set (zs.length - 1) (zs.getD (-1 + (zs.length : Int)).toNat 0 + 1)
theorem unStep_len (first : Int) (zs : List Int) (mark : Int) : (unStep first zs mark).length ≤ zs.length + 1 ∧ (zs ≠ [] ∨ mark = first → unStep first zs mark ≠ []) := by
  unfold unStep
  split
  · exact ⟨by simp, fun _ => by simp⟩
  · refine ⟨by simp, fun h => ?_⟩
    rcases h with h | h
    · intro e
      have := congrArg List.length e
      simp at this
      exact h this
    · contradiction
/-- a turn's end of the loop over the marks -/
noncomputable def UnEnd (g : Heap) (L : Addr) (s : Shared) (I : Addr) (oI : Obj) (zl D cl : Addr) (oC : Obj) (ys : List Value) (x : Str) (tx : Tok) (st : List Int) (Q : Flow → Shared → Prop) (f : Flow) (s₂ : Shared) : Prop :=
  match f with
  | .ret v => Q (.ret v) s₂
  | .brk => Q .next s₂
  | _ => ∃ h' tk m' arr kz, s₂ = { s with heap := h', toks := tk } ∧ Fr g L h' m' ∧ News g L h' [(I, oI), (zl, W.listOf (List.toArray arr) kz), (D, LCg.lst ys), (cl, oC)] ∧ IntsAre arr st ∧
      m' nSizes = some (.ref zl) ∧ m' nMarks = some (.ref D) ∧ m' nRest = some (.str x tx)

theorem UnEnd.yes {g h' : Heap} {L : Addr} {s : Shared} {I zl D cl : Addr} {oI oC : Obj} {ys arr : List Value} {x : Str} {tx tn : Tok} {first n : Int} {zs : List Int} {kz tk : Nat} {m' : Str → Option Value} {Q : Flow → Shared → Prop}
    (F : Fr g L h' m') (N : News g L h' [(I, oI), (zl, W.listOf ((List.toArray arr).push (.int 1 tn)) (kz + 1)), (D, LCg.lst ys), (cl, oC)]) (hi : IntsAre arr zs) (hn : n = first)
    (e2 : m' nSizes = some (.ref zl)) (e3 : m' nMarks = some (.ref D)) (e4 : m' nRest = some (.str x tx)) :
    UnEnd g L s I oI zl D cl oC ys x tx (unStep first zs n) Q .next { s with heap := h', toks := tk } := by
  unfold unStep
  rw [if_pos hn]
  rw [List.push_toArray] at N
  exact ⟨h', tk, m', arr ++ [.int 1 tn], kz + 1, rfl, F, N, ints_snoc hi, e2, e3, e4⟩
theorem UnEnd.no {g h' : Heap} {L : Addr} {s : Shared} {I zl D cl : Addr} {oI oC : Obj} {ys arr : List Value} {x : Str} {tx tn : Tok} {first n : Int} {zs : List Int} {kz tk : Nat} {m' : Str → Option Value} {Q : Flow → Shared → Prop}
    (F : Fr g L h' m') (N : News g L h' [(I, oI), (zl, W.listOf (List.toArray (arr.set (arr.length - 1) (.int (zs.getD (-1 + (zs.length : Int)).toNat 0 + 1) tn))) kz), (D, LCg.lst ys), (cl, oC)]) (hi : IntsAre arr zs) (hn : ¬ n = first)
    (e2 : m' nSizes = some (.ref zl)) (e3 : m' nMarks = some (.ref D)) (e4 : m' nRest = some (.str x tx)) :
    UnEnd g L s I oI zl D cl oC ys x tx (unStep first zs n) Q .next { s with heap := h', toks := tk } := by
  unfold unStep
  rw [if_neg hn]
  refine ⟨h', tk, m', _, kz, rfl, F, N, ?_, e2, e3, e4⟩
  rw [← hi.length]
  exact ints_set hi _
section
variable {prog : Program} {w : World} {A : Around} {E : Value → Shared → Prop} {s : Shared} {env : Env} {g : Heap} {Q : Flow → Shared → Prop}
theorem first_item {news : List (Addr × Obj)} {L D : Addr} {value slice : PySem.Expr} {ys : List Value} {ns : List Int} {u : Tok} {Q : Value → Shared → Prop} (N : News g L s.heap news) (hm : (D, LCg.lst ys) ∈ news) (hi : IntsAre ys ns) (hpos : 0 < ns.length)
    (h : ∀ t, Q (.int (ns.getD 0 0) t) s)
    (hs : subscripted slice false (.ref D) (.int 0 u) = operate [.ref D, .int 0 u] (getItem (.ref D) (.int 0 u)) := by with_unfolding_all rfl) :
    wpAny (model prog w) A (subscriptTail value slice (.ref D) (.int 0 u)) Q E s :=
  item_list_intsR ⟨_, (N _ hm).1, rfl, _, rfl⟩ hi (by decide) (by omega) (by decide) h hs
theorem last_itemL {news : List (Addr × Obj)} {L D : Addr} {value slice : PySem.Expr} {ys : List Value} {ns : List Int} {k : Nat} {u : Tok} {Q : Value → Shared → Prop} (N : News g L s.heap news) (hm : (D, W.listOf (List.toArray ys) k) ∈ news) (hi : IntsAre ys ns) (hpos : 0 < ns.length)
    (h : ∀ t, Q (.int (ns.getD (-1 + (ns.length : Int)).toNat 0) t) s)
    (hs : subscripted slice false (.ref D) (.int (-1) u) = operate [.ref D, .int (-1) u] (getItem (.ref D) (.int (-1) u)) := by with_unfolding_all rfl) :
    wpAny (model prog w) A (subscriptTail value slice (.ref D) (.int (-1) u)) Q E s :=
  item_list_ints_negR (PySem.IsL.isList (n := k) (N _ hm).1) hi (by decide) (by omega) (by decide) h hs
end
end Mine
end
theorem Mine.rs33 : True := by k_with_none; w_top off; trivial
section
open PySem PySem.W PyProof.Rows PySem.Calls PyProof.V PySem.Spec
set_option maxRecDepth 100000
set_option maxHeartbeats 8000000
namespace Mine
section
variable {prog : Program} {w : World} {A : Around} {E : Value → Shared → Prop} {s : Shared} {env : Env} {g : Heap} {Q : Flow → Shared → Prop}
theorem un_src {body : List Stmt} {zl D cl : Addr} {oC : Obj} {ys : List Value} {ns : List Int} {m : Str → Option Value} {x : Str} {tx : Tok}
    (F : Fr g env.locals s.heap m) (N : News g env.locals s.heap [(zl, W.listOf #[] 0), (D, LCg.lst ys), (cl, oC)]) (hi : IntsAre ys ns)
    (e2 : m nSizes = some (.ref zl)) (e3 : m nMarks = some (.ref D)) (e4 : m nRest = some (.str x tx))
    (turn : ∀ (n : Int) (t : Tok) (arr : List Value) (zs : List Int) (kz : Nat) (u : Str → Option Value) h tk I oI, n ∈ ns → IntsAre arr zs → zs.length ≤ ns.length → 0 < ns.length → (zs ≠ [] ∨ n = ns.getD 0 0) → (@Ne Nat zl I) → (@Ne Nat D I) → (@Ne Nat cl I) →
      Fr g env.locals h (fun z => if z = nMark then some (.int n t) else if z = nSizes then some (.ref zl) else if z = nMarks then some (.ref D) else if z = nRest then some (.str x tx) else u z) →
      News g env.locals h [(I, oI), (zl, W.listOf (List.toArray arr) kz), (D, LCg.lst ys), (cl, oC)] →
      wpAny (model prog w) A (execs body env) (UnEnd g env.locals { s with heap := h, toks := tk } I oI zl D cl oC ys x tx (unStep (ns.getD 0 0) zs n) Q) E { s with heap := h, toks := tk })
    (done : ∀ h tk (arr : List Value) (zs : List Int) (kz : Nat) (u : Str → Option Value), zs = ns.foldl (unStep (ns.getD 0 0)) [] → IntsAre arr zs →
      Fr g env.locals h (fun z => if z = nSizes then some (.ref zl) else if z = nMarks then some (.ref D) else if z = nRest then some (.str x tx) else u z) →
      News g env.locals h [(zl, W.listOf (List.toArray arr) kz), (D, LCg.lst ys), (cl, oC)] → Q .next { s with heap := h, toks := tk }) :
    LiSrc prog w A g env nMark body Q E (.ref D) s := by
  have hlen := IntsAre.length hi
  refine ⟨D, LCg.lst ys, ys, ys.length, _, m, fun i m' nw => i ≤ ns.length ∧ ∃ arr zs kz, nw = [(zl, W.listOf (List.toArray arr) kz), (D, LCg.lst ys), (cl, oC)] ∧ IntsAre arr zs ∧ zs.length ≤ i ∧ (0 < i → zs ≠ []) ∧ zs = (ns.take i).foldl (unStep (ns.getD 0 0)) [] ∧
    m' nSizes = some (.ref zl) ∧ m' nMarks = some (.ref D) ∧ m' nRest = some (.str x tx), rfl, rfl, rfl, F, N, ⟨Nat.zero_le _, [], [], 0, rfl, .nil, Nat.zero_le _, fun h => absurd h (Nat.lt_irrefl 0), rfl, e2, e3, e4⟩, ?_, ?_, ?_⟩
  · rintro i m' nw ⟨_, arr, zs, kz, rfl, _⟩
    exact .tail _ (.head _)
  · rintro i v m' nw h tk I oI hv ⟨_, arr, zs, kz, rfl, ha, hz, hne, hst, f2, f3, f4⟩ hnI F' N'
    obtain ⟨n, t, rfl, hn⟩ := IntsAre.at hi i v hv
    have hlt : i < ns.length := (List.getElem?_eq_some_iff.mp hn).1
    have hfirst : zs ≠ [] ∨ n = ns.getD 0 0 := by
      rcases Nat.eq_zero_or_pos i with q | q
      · subst q
        refine .inr ?_
        rw [List.getD_eq_getElem?_getD, hn]; rfl
      · exact .inl (hne q)
    have F'' := F'
    rw [pin5 (m := fun z => if z = nMark then some (.int n t) else m' z) (a := nMark) (b := nSizes) (c := nMarks) (d := nRest) (e := nRest) (va := .int n t) (vb := .ref zl) (vc := .ref D) (vd := .str x tx) (ve := .str x tx) (if_pos rfl)
      (by show (if nSizes = nMark then _ else m' nSizes) = _; rw [if_neg (by decide)]; exact f2) (by show (if nMarks = nMark then _ else m' nMarks) = _; rw [if_neg (by decide)]; exact f3)
      (by show (if nRest = nMark then _ else m' nRest) = _; rw [if_neg (by decide)]; exact f4) (by show (if nRest = nMark then _ else m' nRest) = _; rw [if_neg (by decide)]; exact f4)] at F''
    have z1 := hnI _ (List.Mem.head _)
    have z2 := hnI _ (.tail _ (List.Mem.head _))
    have z3 := hnI _ (.tail _ (.tail _ (List.Mem.head _)))
    refine wpAny_mono (turn n t arr zs kz _ h tk I oI (List.mem_of_getElem? hn) ha (by omega) (by omega) hfirst z1 z2 z3 F'' N') (fun f s₂ q => ?_) fun _ _ e => e
    have hst' : unStep (ns.getD 0 0) zs n = (ns.take (i + 1)).foldl (unStep (ns.getD 0 0)) [] := by
      rw [List.take_add_one, hn]
      simp only [Option.toList, List.foldl_append, List.foldl_cons, List.foldl_nil]
      rw [← hst]
    have hlz := unStep_len (ns.getD 0 0) zs n
    have off : ∀ arr kz, ∀ p ∈ [(zl, W.listOf (List.toArray arr) kz), (D, LCg.lst ys), (cl, oC)], p.1 ≠ I := by
      intro arr kz p hp
      rcases List.mem_cons.mp hp with rfl | hp
      · exact z1
      rcases List.mem_cons.mp hp with rfl | hp
      · exact z2
      rcases List.mem_cons.mp hp with rfl | hp
      · exact z3
      · cases hp
    cases f with
    | ret v => exact q
    | brk => exact q
    | next =>
      obtain ⟨h₃, tk₃, m₃, arr₃, kz₃, rfl, F₃, N₃, ha₃, f2, f3, f4⟩ := q
      exact ⟨h₃, tk₃, m₃, _, rfl, F₃, N₃, off _ _, hlt, arr₃, _, kz₃, rfl, ha₃, Nat.le_trans hlz.1 (Nat.succ_le_succ hz), fun _ => hlz.2 hfirst, hst', f2, f3, f4⟩
    | cont =>
      obtain ⟨h₃, tk₃, m₃, arr₃, kz₃, rfl, F₃, N₃, ha₃, f2, f3, f4⟩ := q
      exact ⟨h₃, tk₃, m₃, _, rfl, F₃, N₃, off _ _, hlt, arr₃, _, kz₃, rfl, ha₃, Nat.le_trans hlz.1 (Nat.succ_le_succ hz), fun _ => hlz.2 hfirst, hst', f2, f3, f4⟩
  · rintro h tk m' nw F' N' ⟨_, arr, zs, kz, rfl, ha, hz, hne, hst, f2, f3, f4⟩
    rw [List.take_of_length_le (by omega)] at hst
    rw [pin5 (a := nSizes) (b := nMarks) (c := nRest) (d := nRest) (e := nRest) f2 f3 f4 f4 f4] at F'
    exact done h tk arr zs kz _ hst ha F' N'
end
end Mine
end
theorem Mine.rs34 : True := by k_with_none; w_top off; trivial
section
open PySem PySem.W PyProof.Rows PySem.Calls PyProof.V PySem.Spec PyProof
set_option maxRecDepth 100000
set_option maxHeartbeats 8000000
namespace Mine
theorem un_go (first : Int) : ∀ (ns zs : List Int), (∀ z ∈ zs, 0 < z) → (zs ≠ [] ∨ ∀ n, ns[0]? = some n → n = first) →
    (∀ z ∈ ns.foldl (unStep first) zs, 0 < z) ∧ (ns.foldl (unStep first) zs).sum = zs.sum + ns.length
  | [], zs, h1, _ => ⟨h1, by simp⟩
  | n :: ns, zs, h1, h2 => by
    rw [List.foldl_cons]
    have hf : zs ≠ [] ∨ n = first := h2.imp id fun h => h n rfl
    have k : (∀ z ∈ unStep first zs n, 0 < z) ∧ (unStep first zs n).sum = zs.sum + 1 := by
      unfold unStep
      split
      · refine ⟨fun z hz => ?_, by simp [List.sum_append]⟩
        rcases List.mem_append.mp hz with hz | hz
        · exact h1 z hz
        · have := List.mem_singleton.mp hz; omega
      · have hne : zs ≠ [] := hf.resolve_right (by assumption)
        have hlt : zs.length - 1 < zs.length := by
          have := List.length_pos_iff.mpr hne
          omega
        have e : (-1 + (zs.length : Int)).toNat = zs.length - 1 := by omega
        rw [e]
        have hmem : zs.getD (zs.length - 1) 0 ∈ zs := by
          rw [List.getD_eq_getElem?_getD, List.getElem?_eq_getElem hlt]
          exact List.getElem_mem hlt
        have hp := h1 _ hmem
        refine ⟨fun z hz => ?_, ?_⟩
        · rcases List.mem_or_eq_of_mem_set hz with hz | hz
          · exact h1 z hz
          · omega
        · rw [sum_set hlt]
          omega
    have hne := (unStep_len first zs n).2 hf
    obtain ⟨r1, r2⟩ := un_go first ns _ k.1 (.inl hne)
    refine ⟨r1, ?_⟩
    rw [r2, k.2, List.length_cons]
    push_cast
    omega
theorem un_sums {ns zs : List Int} {l : Nat} (h : zs = ns.foldl (unStep (ns.getD 0 0)) []) (hl : ns.length = l) : ∀ i n, zs[i]? = some n → 0 < n ∧ 0 ≤ (zs.take i).sum ∧ (zs.take i).sum + n ≤ l := by
  have k := un_go (ns.getD 0 0) ns [] (fun _ h => nomatch h) (.inr fun n hn => by rw [List.getD_eq_getElem?_getD, hn]; rfl)
  rw [← h] at k
  intro i n hn
  obtain ⟨a, b, c⟩ := prefix_sum zs i n k.1 hn
  refine ⟨a, b, ?_⟩
  have := k.2
  simp at this
  omega
theorem un_range {ns zs : List Int} {l : Nat} (h : zs = ns.foldl (unStep (ns.getD 0 0)) []) (hl : ns.length = l) (h6 : l ≤ 6) : ∀ n ∈ zs, 0 < n ∧ n < 127 := by
  intro n hn
  obtain ⟨i, hi⟩ := List.getElem?_of_mem hn
  obtain ⟨a, b, c⟩ := un_sums h hl i n hi
  exact ⟨a, by omega⟩
end Mine
end
theorem Mine.rs35 : True := by k_with_none; w_top off; trivial
section
open PySem PySem.W PyProof.Rows PySem.Calls PyProof.V PySem.Spec PyProof
set_option maxRecDepth 100000
set_option maxHeartbeats 8000000
namespace Mine
noncomputable def uwStep (x : Str) (st : Str × Int) (n : Int) : Str × Int := (st.1 ++ (Txt.slice x (some (st.2 + 1)) (some (st.2 + n)) ++ Txt.item x st.2), st.2 + n)
theorem uwStep_len (x : Str) (st : Str × Int) (n : Int) : (uwStep x st n).1.length ≤ st.1.length + 1 + x.length := by
  unfold uwStep
  rw [PySem.Str.length_append, PySem.Str.length_append]
  have h1 : (Txt.item x st.2).length = 1 := rfl
  have h2 := Txt.slice_le x (some (st.2 + 1)) (some (st.2 + n))
  omega
theorem uw_place (x : Str) : ∀ (zs : List Int) (st : Str × Int), (zs.foldl (uwStep x) st).2 = st.2 + zs.sum
  | [], st => by simp
  | z :: zs, st => by
    rw [List.foldl_cons, uw_place x zs, List.sum_cons]
    show st.2 + z + zs.sum = _
    omega
/-- a turn's end of the loop over the sizes -/
noncomputable def UwEnd (g : Heap) (L : Addr) (s : Shared) (led : List (Addr × Obj)) (x : Str) (tx : Tok) (st : Str × Int) (Q : Flow → Shared → Prop) (f : Flow) (s₂ : Shared) : Prop :=
  match f with
  | .ret v => Q (.ret v) s₂
  | .brk => Q .next s₂
  | _ => ∃ h' tk m' tt tp, s₂ = { s with heap := h', toks := tk } ∧ Fr g L h' m' ∧ News g L h' led ∧ m' nTurned = some (.str st.1 tt) ∧ m' nPlace = some (.int st.2 tp) ∧ m' nRest = some (.str x tx)
theorem UwEnd.intro {g h' : Heap} {L : Addr} {s : Shared} {led : List (Addr × Obj)} {x : Str} {tx tt tp : Tok} {st : Str × Int} {tk : Nat} {m' : Str → Option Value} {Q : Flow → Shared → Prop}
    (F : Fr g L h' m') (N : News g L h' led) (e1 : m' nTurned = some (.str st.1 tt)) (e2 : m' nPlace = some (.int st.2 tp)) (e3 : m' nRest = some (.str x tx)) : UwEnd g L s led x tx st Q .next { s with heap := h', toks := tk } :=
  ⟨h', tk, m', tt, tp, rfl, F, N, e1, e2, e3⟩
section
variable {prog : Program} {w : World} {A : Around} {E : Value → Shared → Prop} {s : Shared} {env : Env} {g : Heap} {Q : Flow → Shared → Prop}
theorem unweave_src {body : List Stmt} {zl ad C : Addr} {gn : Nat} {lo : Obj} {zs : List Int} {m : Str → Option Value} {x : Str} {tx t0 t1 : Tok} {news : List (Addr × Obj)}
    (hat : GiAt prog w A g ad gn C s.heap.objs.size zl zs 0 s) (h1 : env.locals < C) (h2 : C < ad) (h3 : ad < s.heap.objs.size) (h4 : ∀ p ∈ news, p.1 < C) (hC : ∃ o, s.heap.get? C = some o)
    (F : Fr g env.locals s.heap m) (N : News g env.locals s.heap news) (hB : ∀ y ∈ s.gens, y.bare = true) (hsl : (zl, lo) ∈ news)
    (e1 : m nTurned = some (.str (Str.ofString "") t0)) (e2 : m nPlace = some (.int 0 t1)) (e3 : m nRest = some (.str x tx)) (hx : x.length ≤ 6)
    (hsum : ∀ i n, zs[i]? = some n → 0 < n ∧ 0 ≤ (zs.take i).sum ∧ (zs.take i).sum + n ≤ x.length)
    (turn : ∀ (n : Int) (t : Tok) (tu : Str) (tt : Tok) (pl : Int) (tp : Tok) (u : Str → Option Value) h tk G led, 0 < n → 0 ≤ pl → pl + n ≤ x.length → tu.length ≤ 1000 →
      Fr g env.locals h (fun z => if z = nSize then some (.int n t) else if z = nTurned then some (.str tu tt) else if z = nPlace then some (.int pl tp) else if z = nRest then some (.str x tx) else u z) → News g env.locals h led →
      wpAny (model prog w) A (execs body env) (UwEnd g env.locals { s with heap := h, toks := tk, gens := G } led x tx (uwStep x (tu, pl) n) Q) E { s with heap := h, toks := tk, gens := G })
    (done : ∀ h tk G (tu : Str) (tt : Tok) (pl : Int) (tp : Tok) (u : Str → Option Value), (tu, pl) = zs.foldl (uwStep x) (Str.ofString "", 0) → tu.length ≤ 1000 → (∀ y ∈ G, y.bare = true) →
      Fr g env.locals h (fun z => if z = nTurned then some (.str tu tt) else if z = nPlace then some (.int pl tp) else if z = nRest then some (.str x tx) else u z) → News g env.locals h news → Q .next { s with heap := h, toks := tk, gens := G }) :
    GiSrc prog w A g env nSize body Q E (.ref ad) s := by
  have hcount : ∀ i, i ≤ zs.length → (i : Int) ≤ (zs.take i).sum := by
    intro i
    induction i with
    | zero => intro _; simp
    | succ i ih =>
      intro hi
      have hlt : i < zs.length := hi
      have h := ih (Nat.le_of_lt hlt)
      have hz := (hsum i _ (List.getElem?_eq_getElem hlt)).1
      rw [List.take_add_one, List.getElem?_eq_getElem hlt]
      simp only [Option.toList, List.sum_append, List.sum_cons, List.sum_nil]
      omega
  have hlen : zs.length ≤ 6 := by
    rcases Nat.eq_zero_or_pos zs.length with e | e
    · omega
    · have hlt : zs.length - 1 < zs.length := by omega
      have h := hcount (zs.length - 1) (Nat.le_of_lt hlt)
      have hz := hsum (zs.length - 1) _ (List.getElem?_eq_getElem hlt)
      omega
  refine ⟨ad, gn, C, _, zl, lo, zs, news, m, fun i m' => i ≤ zs.length ∧ ∃ tu tt pl tp, (tu, pl) = (zs.take i).foldl (uwStep x) (Str.ofString "", 0) ∧ tu.length ≤ 7 * i ∧ m' nTurned = some (.str tu tt) ∧ m' nPlace = some (.int pl tp) ∧ m' nRest = some (.str x tx),
    rfl, hat, rfl, h1, h2, h3, hsl, h4, hC, F, N, hB, ⟨Nat.zero_le _, _, t0, 0, t1, rfl, by decide +kernel, e1, e2, e3⟩, ?_, ?_⟩
  · rintro i n t h tk G m' led hn ⟨_, tu, tt, pl, tp, hst, hl, f1, f2, f3⟩ hG F' N'
    have hlt : i < zs.length := (List.getElem?_eq_some_iff.mp hn).1
    have hs := hsum i n hn
    have hpl : pl = (zs.take i).sum := by
      have := uw_place x (zs.take i) (Str.ofString "", 0)
      rw [← hst] at this
      simpa using this
    have F'' := F'
    rw [pin5 (m := fun z => if z = nSize then some (.int n t) else m' z) (a := nSize) (b := nTurned) (c := nPlace) (d := nRest) (e := nRest) (va := .int n t) (vb := .str tu tt) (vc := .int pl tp) (vd := .str x tx) (ve := .str x tx) (if_pos rfl)
      (by show (if nTurned = nSize then _ else m' nTurned) = _; rw [if_neg (by decide)]; exact f1) (by show (if nPlace = nSize then _ else m' nPlace) = _; rw [if_neg (by decide)]; exact f2)
      (by show (if nRest = nSize then _ else m' nRest) = _; rw [if_neg (by decide)]; exact f3) (by show (if nRest = nSize then _ else m' nRest) = _; rw [if_neg (by decide)]; exact f3)] at F''
    refine wpAny_mono (turn n t tu tt pl tp _ h tk G led hs.1 (by omega) (by omega) (by omega) F'' N') (fun f s₂ q => ?_) fun _ _ e => e
    have hst' : uwStep x (tu, pl) n = (zs.take (i + 1)).foldl (uwStep x) (Str.ofString "", 0) := by
      rw [List.take_add_one, hn]
      simp only [Option.toList, List.foldl_append, List.foldl_cons, List.foldl_nil]
      rw [← hst]
    have hl' := uwStep_len x (tu, pl) n
    have hl'' : (uwStep x (tu, pl) n).1.length ≤ 7 * (i + 1) := by
      have : (tu, pl).1.length = tu.length := rfl
      omega
    cases f with
    | ret v => exact q
    | brk => exact q
    | next =>
      obtain ⟨h₃, tk₃, m₃, tt₃, tp₃, rfl, F₃, N₃, f1, f2, f3⟩ := q
      exact ⟨h₃, tk₃, m₃, rfl, F₃, N₃, hlt, _, tt₃, _, tp₃, hst', hl'', f1, f2, f3⟩
    | cont =>
      obtain ⟨h₃, tk₃, m₃, tt₃, tp₃, rfl, F₃, N₃, f1, f2, f3⟩ := q
      exact ⟨h₃, tk₃, m₃, rfl, F₃, N₃, hlt, _, tt₃, _, tp₃, hst', hl'', f1, f2, f3⟩
  · rintro h tk G m' F' N' ⟨_, tu, tt, pl, tp, hst, hl, f1, f2, f3⟩ hG
    rw [List.take_of_length_le (Nat.le_refl _)] at hst
    rw [pin5 (a := nTurned) (b := nPlace) (c := nRest) (d := nRest) (e := nRest) f1 f2 f3 f3 f3] at F'
    exact done h tk G tu tt pl tp _ hst (by omega) hG F' N'
end
end Mine
end
theorem Mine.rs36 : True := by k_with_none; w_top off; trivial
section
open PySem PySem.W PyProof.Rows PySem.Calls PyProof.V PySem.Spec
set_option maxRecDepth 100000
set_option maxHeartbeats 8000000
namespace Mine
theorem fillCtU : (fun (_ : OpenLaw) (_ : Params → Frag) => True) PySem.Challenge.rw_wo0061_01 KK := by
  k_fill
  trivial

theorem fr_pinU {g h : Heap} {L : Addr} {m : Str → Option Value} (F : Fr g L h m) (a : Str) (v : Value) (e : m a = some v) : ∃ u : Str → Option Value, Fr g L h (fun z => if z = a then some v else u z) := by
  refine ⟨m, ?_⟩
  have : (fun z => if z = a then some v else m z) = m := by
    funext z
    by_cases h : z = a
    · subst h; simp [e]
    · simp [h]
  rw [this]; exact F
noncomputable def unweaveS (x : Str) : Str := ((((Txt.slice x none (some (-1))).cps.toList.map (fun c => cmpS (Txt.item x (-1)) ⟨#[c]⟩)).foldl (unStep (((Txt.slice x none (some (-1))).cps.toList.map (fun c => cmpS (Txt.item x (-1)) ⟨#[c]⟩)).getD 0 0)) []).foldl (uwStep (Txt.slice x none (some (-1)))) (Str.ofString "", 0)).1
theorem unw_tail {h₀ h : Heap} {L : Addr} {p : Addr × Obj} {news led : List (Addr × Obj)} (N : News h₀ L h (p :: led)) (B : News h₀ L h news) : News h₀ L h (p :: news) := fun q hq => (List.mem_cons.mp hq).elim (fun e => e ▸ N p (.head _)) (B q)
theorem un_pos {zs : List Int} {n f : Int} (h : zs ≠ [] ∨ n = f) (hn : ¬ n = f) : 0 < zs.length := List.length_pos_iff.mpr (h.resolve_right hn)

theorem unweave_ct {w : World} {mean : ExcName → Option Value} {mg mb : Str → Option Value} {ls : List Str} {news : List (Addr × Obj)} {dp un : Nat} {gd : Option (List Code)} {cn : Str} {cs : Scope} {a : Addr} {ccd : Value} {cl : List (Str × Addr)} {outer : List Env} {A₀ : Around} {base h₀ : Heap} {L : Addr} {m : Str → Option Value} {s : Shared} {Q E : Value → Shared → Prop} {x : Str} {tx : Tok}
    (k1 : Below A₀ base outer h₀) (k2 : Fr h₀ L s.heap m) (k3 : (KK w.params).In h₀) (k4 : News h₀ L s.heap news) (k5 : Top vw ls mean mg mb h₀) (kK : cs.kind = .function) (kd : dp + 10 < recursionLimit) (ku : un + 100 < cLine)
    (hx : x.length ≤ 6) (hx1 : 1 ≤ x.length) (hB : ∀ y ∈ s.gens, y.bare = true)
    (ret : ∀ (ad : Addr) (t1 t2 : Tok) (h' : Heap) (tk' : Nat) (G : Array GenState), (∀ y ∈ G, y.bare = true) → Fr h₀ L h' m → News h₀ L h' ((ad, { cls := Value.type "tuple", data := Data.seq #[Value.str (unweaveS x) t1, Value.str (Txt.item x (-1)) t2] }) :: news) → Q (.ref ad) { s with heap := h', toks := tk', gens := G }) :
    wpAny (model P w) (ktrTop dp un gd cn cs L a ccd cl outer) (call (.ref 170) [.str x tx]) Q E s := by
  k_with_none
  (k_with "exec Assign cons ListComp" => (k_here; k_dflt (refine Assign_ListComp_S (by k_asm) (by rfl) (by rfl) (by with_unfolding_all rfl) (by with_unfolding_all rfl) (by decide) (by rfl) (by decide) (by rfl) (by rfl) (by rfl) ?_)))
  (k_with "exec For Name Name cons nil" => (k_here; k_dflt (refine For_list (by k_asm) (by rfl) (by rfl) (by rfl) ?_)))
  (k_with "exec For Name Call cons nil" => (k_here; k_dflt (refine' For_gi ?hh ?hl ?hr ?hx ?hp ?_; (case hh => exact rfl); (case hl => exact Top.nolimit (by assumption)); (case hr => ktr_room); (case hx => exact rfl); (case hp => exact rfl))))
  (k_with "call builtin:list.append" => (k_here; (with_reducible show wpAny _ _ (call (Value.builtin _) [Value.ref _, _]) _ _ _); k_dflt (refine' append_K ?k1 ?k2 ?k3 ?_ ?z; (case k1 => k_asm); (case k2 => k_asm); (case k3 => k_upd); (case z => assumption); k_whole); intro h'zz F'zz N'zz; (try k_sweep)))
  (k_with "subscriptTail" => (k_here; (with_reducible show wpAny _ _ (subscriptTail _ _ (Value.ref _) (Value.int 0 _)) _ _ _); k_dflt (refine' first_item ?N ?M ?I ?P ?_; (case N => k_asm); (case M => k_mem); (case I => assumption); (case P => assumption); k_whole); intro _))
  (k_with "subscriptTail" => (k_here; (with_reducible show wpAny _ _ (subscriptTail _ _ (Value.ref _) (Value.int (-1) _)) _ _ _); k_dflt (refine' last_itemL ?N ?M ?I ?P ?_; (case N => k_asm); (case M => k_mem); (case I => assumption); (case P => exact un_pos (by assumption) (by assumption)); k_whole); intro _))
  (k_with "setItem ref int" => (k_here; (with_reducible show wpAny _ _ (setItem (Value.ref _) (Value.int (-1) _) (Value.int _ _)) _ _ _); k_dflt (refine' set_last ?F ?N ?U ?I ?P ?_; (case F => k_asm); (case N => k_asm); (case U => k_upd); (case I => assumption); (case P => exact un_pos (by assumption) (by assumption)); k_whole); intro h'zz F'zz N'zz; (try k_sweep)))
  (k_with "call ref" => (k_here; k_dflt (refine' concat_ct ?k1 ?k2 ?k3 ?k4 ?k5 ?kK ?kd ?ku ?hlen ?_; (case k1 => k_asm); (case k2 => k_asm); (case k3 => k_asm); (case k4 => k_asm); (case k5 => k_asm); (case kK => first | exact rfl | assumption); (case kd => ktr_room); (case ku => ktr_units); (case hlen => first | omega | (simp only [PySem.Str.length_append, PyProof.Rows.len_item]; omega) | (have hslzz := Txt.slice_le x; simp only [PySem.Str.length_append, PyProof.Rows.len_item]; omega)); k_whole); intro t'zz h'zz tk'zz F'zz N'zz; (try k_sweep); (try dsimp only); (try k_fold)))
  (k_with "call ref" => (k_here; k_dflt (refine' gi_ct ?k1 ?k2 ?k3 ?k4 ?k5 ?kK ?kd ?ku ?hsl ?hi ?hns ?hB ?hh ?_; (case k1 => k_asm); (case k2 => k_asm); (case k3 => k_asm); (case k4 => k_asm); (case k5 => k_asm); (case kK => first | exact rfl | assumption); (case kd => ktr_room); (case ku => ktr_units); (case hsl => k_mem); (case hi => assumption); (case hns => assumption); (case hB => assumption); (case hh => exact rfl); k_whole); intro ad'zz C'zz gn'zz h'zz tk'zz G'zz hat'zz q1'zz q2'zz q3'zz q4'zz q5'zz F'zz N'zz hB'zz; (try k_sweep); (try dsimp only); (try k_fold)))
  (k_with "call ref" => (k_here; k_dflt (refine' strcoll_ct ?k1 ?k2 ?k3 ?k4 ?k5 ?kK ?kd ?ku  ?_; (case k1 => k_asm); (case k2 => k_asm); (case k3 => k_asm); (case k4 => k_asm); (case k5 => k_asm); (case kK => first | exact rfl | assumption); (case kd => ktr_room); (case ku => ktr_units); k_whole); intro t'zz h'zz tk'zz F'zz N'zz; (try k_sweep); (try dsimp only); (try k_fold)))
  refine wpAny_call ?_
  k_dflt (refine' code_ownC [] ?kO ?k1 ?k2 ?k3 ?k4 ?k5 ?kA ?kF ?kK ?k6 ?k7 ?k8 ?k9 ?kB ?kD ?_ ?c2 ?c3 ?c4; (case kO => intro q hq; cases hq); (case kA => exact rfl); (case kF => exact rfl); (case kK => assumption); (case k1 => k_asm); (case k2 => k_asm); (case k3 => k_asm); (case k4 => k_asm); (case k5 => k_asm); (case k6 => k_is); (case k7 => k_is); (case k8 => ktr_room); (case k9 => exact BindsTo.of_eq rfl); (case kB => exact rfl); (case kD => decide +kernel); (case c2 => exact rfl); (case c3 => exact rfl); (case c4 => exact rfl); k_whole; intro g' L' h' tk' cells' hG' FG' F' N' Y' B' X' T' l1; (try k_lt l1); k_cells Y'; (try simp only [List.cons_append, List.nil_append] at N'); (try dsimp only); (try k_lift B'); (try k_fold))
  (rename Fr g' L' _ _ => FF)
  have FP := fr_pinU FF (Str.ofString "woven") (.str x tx) (by rfl)
  clear FF
  obtain ⟨u, FF⟩ := FP
  k_steps
  (rename _ = Data.cell _ => hcell)
  (have hcx : ∃ ty, _ = Data.cell (some (Value.str (Txt.item x (-1)) ty)) := ⟨_, hcell⟩)
  clear hcell
  obtain ⟨ty, hcell⟩ := hcx
  have hr6 : (Txt.slice x none (some (-1))).length ≤ 6 := by omega
  generalize hry : Txt.item x (-1) = y at *
  generalize hrs : Txt.slice x none (some (-1)) = r at *
  k_dflt (refine TextSrc.intro (by k_asm) (by k_asm) (by rw [PySem.sizeLine_eq]; omega) fun gg => ?_)
  k_dflt (refine comp_ints (fun c => cmpS y ⟨#[c]⟩) ?turn ?fin)
  case turn =>
    intro c' u' I' oI' C' oC' D' m' ys' h' tk' E' hc' hC' hx' F' N' off' ne'
    k_steps
    exact ⟨_, _, _, rfl, rfl, by assumption, by assumption⟩
  case fin =>
    intro ys' hI'
    k_steps
    k_dflt (refine un_src (x := r) (by k_asm) (by k_asm) hI' (by rfl) (by rfl) (by rfl) ?mturn ?mdone)
    case mturn =>
      intro n' t' arr' zs' kz' u' h' tk' I' oI' hm' ha' hz' hpos' hfst' n1' n2' n3' F' N'
      have hzz : (List.toArray arr').size ≤ sizeLine := by
        have hml : (r.cps.toList.map (fun c => cmpS y ⟨#[c]⟩)).length = r.length := by simp [PySem.Str.length]
        rw [List.size_toArray, IntsAre.length ha', PySem.sizeLine_eq]
        omega
      k_steps
      · exact UnEnd.yes (by assumption) (by assumption) ha' (by assumption) (by with_unfolding_all rfl) (by with_unfolding_all rfl) (by with_unfolding_all rfl)
      · exact UnEnd.no (by assumption) (by assumption) ha' (by assumption) (by with_unfolding_all rfl) (by with_unfolding_all rfl) (by with_unfolding_all rfl)
    case mdone =>
      intro h' tk' arr' zs' kz' u' hst' ha' F' N'
      have hml : (r.cps.toList.map (fun c => cmpS y ⟨#[c]⟩)).length = r.length := by simp [PySem.Str.length]
      have hsum' := un_sums hst' hml
      have hrng' := un_range hst' hml hr6
      k_steps
      k_dflt (refine unweave_src (x := r) (by assumption) (by assumption) (by assumption) (by assumption) (by assumption) (by assumption) (by k_asm) (by k_asm) (by assumption) (by k_mem) (by rfl) (by rfl) (by rfl) hr6 hsum' ?gturn ?gdone)
      case gturn =>
        intro n' t' tu' tt' pl' tp' u' h' tk' G' led' hn0' hp0' hpn' hl' F' N'
        have hlen1 := hl'
        k_steps
        exact UwEnd.intro (by assumption) (by assumption) (by with_unfolding_all rfl) (by with_unfolding_all rfl) (by with_unfolding_all rfl)
      case gdone =>
        intro h' tk' G' tu' tt' pl' tp' u' hst2' hl' hG2' F' N'
        k_steps
        have e : tu' = unweaveS x := by
          unfold unweaveS
          rw [hry, hrs, ← hst', ← hst2']
        subst hry
        rw [e] at *
        refine ret _ _ _ _ _ _ hG2' (by assumption) (unw_tail (by assumption) (tail_back k4 hG' (by assumption) (by assumption) (fun q hq => nomatch hq)))


end Mine
end
theorem Mine.rs37 : True := by k_with_none; w_top off; trivial
section
open PySem PySem.W PyProof.Rows PySem.Calls PyProof.V PySem.Spec PySem.Builtin.Str
set_option maxRecDepth 100000
set_option maxHeartbeats 8000000
namespace Mine
/-- two letters with three dots about each -/
noncomputable def fiveS (c d : Nat) : Str := (((Str.ofString "..." ++ ⟨#[c]⟩) ++ Str.ofString "...") ++ ⟨#[d]⟩) ++ Str.ofString "..."
theorem five_len (c d : Nat) : (fiveS c d).length = 11 := rfl
theorem dots_eq : Str.ofString "..." = ⟨#[46, 46, 46]⟩ := by decide +kernel
noncomputable def fiveL (c d : Nat) : Str := ⟨#[46, 46, 46, c, 46, 46, 46, d, 46, 46, 46]⟩
theorem five_lit (c d : Nat) : fiveS c d = fiveL c d := by
  unfold fiveS; rw [dots_eq]; rfl
theorem at_eq {c d : Nat} (i a b e : Nat) (h : (fiveL c d).cps.extract i (i + 3) = #[a, b, e]) : subAt (fiveL c d) ⟨#[46, 46, 46]⟩ i = (decide (a = 46) && decide (b = 46) && decide (e = 46)) := by
  show ((fiveL c d).cps.extract i (i + 3) == #[46, 46, 46]) = _
  rw [h, Bool.eq_iff_iff]
  simp [and_assoc]
theorem five_occ {c d n : Nat} (hc : decide (c = 46) = false) (hd : decide (d = 46) = false) (hn : n = 1 ∨ n = 12) : occurrences (fiveL c d) ⟨#[46, 46, 46]⟩ 0 11 n = if n = 1 then [0] else [0, 4, 8] := by
  have a0 := at_eq (c := c) (d := d) 0 46 46 46 rfl
  have a3 := at_eq (c := c) (d := d) 3 c 46 46 rfl
  have a4 := at_eq (c := c) (d := d) 4 46 46 46 rfl
  have a7 := at_eq (c := c) (d := d) 7 d 46 46 rfl
  have a8 := at_eq (c := c) (d := d) 8 46 46 46 rfl
  rw [StrLaws.occ_eq]
  simp only [hc, hd, Bool.false_and, Bool.true_and, decide_true] at a0 a3 a4 a7 a8
  have l : (Str.length ⟨#[46, 46, 46]⟩) = 3 := rfl
  rcases hn with rfl | rfl <;> simp [List.range', StrLaws.occBody, a0, a3, a4, a7, a8, l]
theorem good_nodot : ∀ c ∈ goodL, decide (c = 46) = false := by decide
theorem five_kind : ∀ c ∈ goodL, ∀ d ∈ goodL, decide (strKind (fiveL c d) < strKind ⟨#[46, 46, 46]⟩) = false := by decide +kernel
theorem five_parts : ∀ c ∈ goodL, ∀ d ∈ goodL, Txt.split (fiveS c d) (Str.ofString "...") = [Str.ofString "", ⟨#[c]⟩, ⟨#[d]⟩, Str.ofString ""] := by
  intro c hc d hd
  have h := five_occ (n := 12) (good_nodot c hc) (good_nodot d hd) (.inr rfl)
  rw [five_lit, dots_eq]
  unfold Txt.split
  rw [five_kind c hc d hd, show occurrences (fiveL c d) ⟨#[46, 46, 46]⟩ 0 (fiveL c d).length ((fiveL c d).length + 1) = [0, 4, 8] from h]
  rfl
theorem five_has : ∀ c ∈ goodL, ∀ d ∈ goodL, (occurrences (fiveS c d) (Str.ofString "...") 0 (fiveS c d).length 1).isEmpty = false := by
  intro c hc d hd
  rw [five_lit, dots_eq, show occurrences (fiveL c d) ⟨#[46, 46, 46]⟩ 0 (fiveL c d).length 1 = [0] from five_occ (n := 1) (good_nodot c hc) (good_nodot d hd) (.inl rfl)]
  rfl
theorem find3_nil {g : Str} {i : Int} (h0 : 0 ≤ i) (h1 : i ≤ g.length) : Txt.find3 g (Str.ofString "") i = i := by
  have hf : fromIndex g.length i = i.toNat := by
    unfold fromIndex
    rw [if_neg (by omega)]
    congr 1
    omega
  have hat : PySem.StrLaws.At g (Str.ofString "") g.length i.toNat := by
    refine ⟨?_, ?_⟩
    · show i.toNat + 0 ≤ _
      omega
    · unfold subAt
      show (g.cps.extract i.toNat (i.toNat + 0) == #[]) = true
      simp only [Nat.add_zero, beq_iff_eq]
      apply Array.toList_inj.mp
      simp
  unfold Txt.find3
  rcases PySem.StrLaws.occ_head_from g (Str.ofString "") (fromIndex g.length i) 1 (Nat.le_refl 1) with ⟨h0', hn⟩ | ⟨k, r, h0', hlo, hk, hn⟩
  · exact absurd hat (hn _ (by rw [hf]; exact Nat.le_refl _))
  · rw [h0']
    show (k : Int) = i
    rw [hf] at hlo hn
    rcases Nat.lt_or_ge i.toNat k with q | q
    · exact absurd hat (hn _ (Nat.le_refl _) q)
    · omega
section
variable {prog : Program} {w : World} {A : Around} {E : Value → Shared → Prop} {s : Shared} {h₀ : Heap} {L : Addr} {m : Str → Option Value} {news : List (Addr × Obj)}
theorem gives_find4 (x y : Str) (i : Int) (t u v z : Tok) : Gives (Builtin.«str.find» ⟨[.str x t, .str y u, .int i v, .int x.length z], []⟩) (.int (Txt.find3 x y i)) := by
  have e : min (fromIndex x.length (x.length : Int)) x.length = x.length := by
    unfold fromIndex
    rw [if_neg (by omega)]
    omega
  show Gives (match occurrences x y (fromIndex x.length i) (min (fromIndex x.length (x.length : Int)) x.length) 1 with | k :: _ => retInt k | [] => (do rule "str.find.not-found"; retInt (-1))) _
  rw [e]
  unfold Txt.find3
  cases occurrences x y (fromIndex x.length i) x.length 1 with
  | nil => exact .rule (.of_eq rfl)
  | cons k _ => exact .of_eq rfl
theorem find4 {x y : Str} {i : Int} {t u v z : Tok} {Q : Value → Shared → Prop} (hq : Q (.int (Txt.find3 x y i) s.toks) { s with toks := s.toks + 1 }) :
    wpAny (model prog w) A (call (.builtin "str.find") [.str x t, .str y u, .int i v, .int x.length z]) Q E s :=
  call_gives F.slot_str_find (typeIs_str _ _ _) F.entry_str_find (F.args_str_find_4 _ _ _ _) (gives_find4 x y i t u v z) hq
theorem find4_nil {x : Str} {i : Int} {t u v z : Tok} {Q : Value → Shared → Prop} (h0 : 0 ≤ i) (h1 : i ≤ x.length) (hq : Q (.int i s.toks) { s with toks := s.toks + 1 }) :
    wpAny (model prog w) A (call (.builtin "str.find") [.str x t, .str (Str.ofString "") u, .int i v, .int x.length z]) Q E s :=
  find4 (by rw [find3_nil h0 h1]; exact hq)
theorem find4_one {x : Str} {c : Nat} {i : Int} {t u v z : Tok} {Q : Value → Shared → Prop} (hq : -1 ≤ Txt.find3 x ⟨#[c]⟩ i → Txt.find3 x ⟨#[c]⟩ i < x.length → Q (.int (Txt.find3 x ⟨#[c]⟩ i) s.toks) { s with toks := s.toks + 1 }) :
    wpAny (model prog w) A (call (.builtin "str.find") [.str x t, .str ⟨#[c]⟩ u, .int i v, .int x.length z]) Q E s := by
  refine find4 (hq ?_ ?_) <;> rcases StrLaws.find3_spec x c i with ⟨h, _⟩ | ⟨k, h, h1, h2, _⟩ <;> rw [h] <;> omega
theorem notIn_five {c d : Nat} {t u : Tok} {Q : Value → Shared → Prop} (hc : c ∈ goodL) (hd : d ∈ goodL) (h : Q (.bool false) s) :
    wpAny (model prog w) A (compareOp .NotIn (.str (Str.ofString "...") u) (.str (fiveS c d) t)) Q E s := by
  refine notIn_str ?_
  rw [five_has c hc d hd]
  exact h
theorem split_five {c d : Nat} {t u : Tok} {Q : Value → Shared → Prop} (F : Fr h₀ L s.heap m) (N : News h₀ L s.heap news) (hc : c ∈ goodL) (hd : d ∈ goodL)
    (h : ∀ D h' k t0 t1 t2 t3, Fr h₀ L h' m → News h₀ L h' ((D, W.listOf #[.str (Str.ofString "") t0, .str ⟨#[c]⟩ t1, .str ⟨#[d]⟩ t2, .str (Str.ofString "") t3] 0) :: news) → (∀ p ∈ news, p.1 < D) → Q (.ref D) { s with heap := h', toks := k }) :
    wpAny (model prog w) A (call (.builtin "str.split") [.str (fiveS c d) t, .str (Str.ofString "...") u]) Q E s := by
  refine KSpl.split1 F N (by decide +kernel) (fun D l h' k e a F' N' l1 => ?_) (by rw [five_len, PySem.sizeLine_eq]; omega)
  rw [five_parts c hc d hd] at e
  obtain ⟨t0, l0, rfl, e0⟩ := KSpl.cons_of e
  obtain ⟨t1, l1', rfl, e1⟩ := KSpl.cons_of e0
  obtain ⟨t2, l2, rfl, e2⟩ := KSpl.cons_of e1
  obtain ⟨t3, l3, rfl, e3⟩ := KSpl.cons_of e2
  obtain rfl := KSpl.nil_of e3
  exact h D h' k t0 t1 t2 t3 F' N' l1
end
/-- is there a c, and behind it a d -/
noncomputable def ellB (c d : Nat) (g : Str) : Bool := decide (0 ≤ Txt.find3 g ⟨#[c]⟩ 0) && decide (0 ≤ Txt.find3 g ⟨#[d]⟩ (Txt.find3 g ⟨#[c]⟩ 0 + 1))
theorem ell_no1 {c d : Nat} {g : Str} (h : Txt.find3 g ⟨#[c]⟩ (0 + ((0 : Nat) : Int)) < 0) : ellB c d g = false := by
  have h : Txt.find3 g ⟨#[c]⟩ 0 < 0 := h
  unfold ellB
  rw [decide_eq_false (by omega)]; rfl
theorem ell_no2 {c d : Nat} {g : Str} (h : Txt.find3 g ⟨#[d]⟩ (Txt.find3 g ⟨#[c]⟩ (0 + ((0 : Nat) : Int)) + ((1 : Nat) : Int)) < 0) : ellB c d g = false := by
  have h : Txt.find3 g ⟨#[d]⟩ (Txt.find3 g ⟨#[c]⟩ 0 + 1) < 0 := h
  unfold ellB
  rw [decide_eq_false (p := 0 ≤ Txt.find3 g ⟨#[d]⟩ _) (by omega), Bool.and_false]
theorem ell_yes {c d : Nat} {g : Str} (h1 : ¬ Txt.find3 g ⟨#[c]⟩ (0 + ((0 : Nat) : Int)) < 0) (h2 : ¬ Txt.find3 g ⟨#[d]⟩ (Txt.find3 g ⟨#[c]⟩ (0 + ((0 : Nat) : Int)) + ((1 : Nat) : Int)) < 0) : ellB c d g = true := by
  have h1 : ¬ Txt.find3 g ⟨#[c]⟩ 0 < 0 := h1
  have h2 : ¬ Txt.find3 g ⟨#[d]⟩ (Txt.find3 g ⟨#[c]⟩ 0 + 1) < 0 := h2
  unfold ellB
  rw [decide_eq_true (p := 0 ≤ Txt.find3 g ⟨#[c]⟩ 0) (by omega), decide_eq_true (p := 0 ≤ Txt.find3 g ⟨#[d]⟩ _) (by omega)]; rfl
end Mine
end
theorem Mine.rs38 : True := by k_with_none; w_top off; trivial
section
open PySem PySem.W PyProof.Rows PySem.Calls PyProof.V PySem.Spec
set_option maxRecDepth 100000
set_option maxHeartbeats 8000000
namespace Mine
theorem fillCtE : (fun (_ : OpenLaw) (_ : Params → Frag) => True) PySem.Challenge.rw_wo0061_01 KK := by
  k_fill
  trivial

theorem ell_ct {w : World} {mean : ExcName → Option Value} {mg mb : Str → Option Value} {ls : List Str} {news : List (Addr × Obj)} {dp un : Nat} {gd : Option (List Code)} {cn : Str} {cs : Scope} {a : Addr} {ccd : Value} {cl : List (Str × Addr)} {outer : List Env} {A₀ : Around} {base h₀ : Heap} {L : Addr} {m : Str → Option Value} {s : Shared} {Q E : Value → Shared → Prop} {c d : Nat} {g : Str} {tx ty : Tok}
    (k1 : Below A₀ base outer h₀) (k2 : Fr h₀ L s.heap m) (k3 : (KK w.params).In h₀) (k4 : News h₀ L s.heap news) (k5 : Top vw ls mean mg mb h₀) (kK : cs.kind = .function) (kd : dp + 4 < recursionLimit) (ku : un + 40 < cLine)
    (hc : c ∈ goodL) (hd : d ∈ goodL) (hy : g.length ≤ 6)
    (ret : ∀ (t : Tok) (h' : Heap) (tk' : Nat), Fr h₀ L h' m → News h₀ L h' news → Q (.bool (ellB c d g)) { s with heap := h', toks := tk' }) :
    wpAny (model P w) (ktrTop dp un gd cn cs L a ccd cl outer) (call (.ref 21) [.str (fiveS c d) tx, .str g ty]) Q E s := by
  k_with_none
  (k_with "compareOp NotIn str str" => (k_here; k_dflt (refine' notIn_five ?a ?b ?_; (case a => assumption); (case b => assumption); k_whole)))
  (k_with "call builtin:str.split" => (k_here; k_dflt (refine' split_five ?F ?N ?a ?b ?_; (case F => k_asm); (case N => k_asm); (case a => assumption); (case b => assumption); k_whole); intro D'zz h'zz k'zz t0'zz t1'zz t2'zz t3'zz F'zz N'zz l1zz; (try k_lt l1zz)))
  (k_with "call builtin:str.find" => (k_here; k_dflt (refine' find4_one ?_; k_whole); intro hf1'zz hf2'zz))
  (k_with "call builtin:str.find" => (k_here; k_dflt (refine' find4_nil ?a ?b ?_; (case a => omega); (case b => omega); k_whole)))
  refine wpAny_call ?_
  k_dflt (refine' code_own [] ?kO ?k1 ?k2 ?k3 ?k4 ?k5 ?kA ?kF ?kK ?k6 ?k7 ?k8 ?k9 ?kB ?_ ?c2 ?c3 ?c4 ?c5; (case kO => intro q hq; cases hq); (case kA => exact rfl); (case kF => exact rfl); (case kK => assumption); (case k1 => k_asm); (case k2 => k_asm); (case k3 => k_asm); (case k4 => k_asm); (case k5 => k_asm); (case k6 => k_is); (case k7 => k_is); (case k8 => ktr_room); (case k9 => exact BindsTo.of_eq rfl); (case c5 => decide); (case kB => exact locs rfl); (case c2 => exact rfl); (case c3 => exact rfl); (case c4 => exact rfl); k_whole; intro g' L' h' hG' FG' F' N' B' X' T'; (try dsimp only); (try k_lift B'); (try k_fold))
  have hlen5 := five_len c d
  have hsg : g.length ≤ sizeLine := by rw [PySem.sizeLine_eq]; omega
  k_steps
  · rw [ell_no1 (by assumption)] at ret
    exact ret 0 _ _ (by assumption) (tail_back k4 hG' (by assumption) (by assumption) (fun q hq => nomatch hq))
  · rw [ell_no2 (by assumption)] at ret
    exact ret 0 _ _ (by assumption) (tail_back k4 hG' (by assumption) (by assumption) (fun q hq => nomatch hq))
  · rw [ell_yes (by assumption) (by assumption)] at ret
    exact ret 0 _ _ (by assumption) (tail_back k4 hG' (by assumption) (by assumption) (fun q hq => nomatch hq))


end Mine
end
theorem Mine.rs39 : True := by k_with_none; w_top off; trivial
section
open PySem PySem.W PyProof.Rows PySem.Calls PyProof.V PySem.Spec
set_option maxRecDepth 100000
set_option maxHeartbeats 8000000
namespace Mine
section
variable {prog : Program} {w : World} {A : Around} {E : Value → Shared → Prop} {s : Shared}
/-- the sign that is drawn bears the newest token -/
noncomputable def DrawsNow (prog : Program) (w : World) (A : Around) (s : Shared) (it : Addr) (c : Nat) (Ok : Heap → Prop) : Prop :=
  ∀ (Q : Value → Shared → Prop) (E : Value → Shared → Prop), (∀ h', Ok h' → Heap.SameBut it s.heap h' → Q (.str ⟨#[c]⟩ s.toks) { s with heap := h', toks := s.toks + 1 }) → wpAny (model prog w) A (Builtin.SmallTypes.nextOf (.ref it)) Q E s
theorem enum_next_now {e it : Addr} {i : Int} {c : Nat} {old : Value} {Ok : Heap → Prop} {Q : Value → Shared → Prop} (D : DrawsNow prog w A s it c Ok)
    (hfr : ∀ h h', Ok h → (∀ o, h.get? it = some o → h'.get? it = some o) → Ok h') (he : IsEnum s.heap e it i old) (hne : e ≠ it)
    (hQ : ∀ h', IsEnumOut h' e it (i + 1) (.str ⟨#[c]⟩ s.toks) s.heap.objs.size → Ok h' → h'.get? s.heap.objs.size = some { cls := .type "tuple", data := .seq #[.int i (s.toks + 1), .str ⟨#[c]⟩ s.toks] } →
      h'.objs.size = s.heap.objs.size + 1 → (∀ b o, b ≠ e → b ≠ it → s.heap.get? b = some o → h'.get? b = some o) → Q (.ref s.heap.objs.size) { s with heap := h', toks := s.toks + 2 }) :
    wpAny (model prog w) A (Builtin.«enumerate.__next__» ⟨[.ref e], []⟩) (fun fin s' => ∃ v, fin = .done (.ret v) ∧ Q v s') E s := by
  obtain ⟨hp, g, d, tk, os⟩ := s
  have hel : e < hp.objs.size := Heap.lt_size he
  show wpAny _ _ (field (.ref e) 2 >>= _) _ _ _
  refine wpAny_bind (wpAny_field he rfl (x := .ref it) rfl ?_)
  refine wpAny_bind (D _ _ fun h₁ ok₁ hs₁ => ?_)
  replace hs₁ : Heap.SameBut it hp h₁ := hs₁
  have he₁ : IsEnum h₁ e it i old := (hs₁.2 e hne).trans he
  show wpAny _ _ (field (.ref e) 3 >>= _) _ _ ⟨h₁, g, d, tk + 1, os⟩
  refine wpAny_bind (wpAny_field he₁ rfl (x := rawInt i) rfl ?_)
  show wpAny _ _ (field (.ref e) 4 >>= _) _ _ ⟨h₁, g, d, tk + 1, os⟩
  refine wpAny_bind (wpAny_field he₁ rfl (x := .none) rfl ?_)
  show wpAny _ _ (mkInt i >>= _) _ _ ⟨h₁, g, d, tk + 1, os⟩
  refine wpAny_bind (wpAny_mkInt ?_)
  show wpAny _ _ (setField (.ref e) 3 (rawInt (i + 1)) >>= _) _ _ ⟨h₁, g, d, tk + 2, os⟩
  refine wpAny_bind (wpAny_setField_rec he₁ (by simp) fun h₂ he₂ hs₂ => ?_)
  replace he₂ : IsEnum h₂ e it (i + 1) old := he₂
  show wpAny _ _ (setField (.ref e) 4 .none >>= _) _ _ ⟨h₂, g, d, tk + 2, os⟩
  refine wpAny_bind (wpAny_setField_rec he₂ (by simp) fun h₃ he₃ hs₃ => ?_)
  replace he₃ : IsEnum h₃ e it (i + 1) old := he₃
  have hz₃ : h₃.objs.size = hp.objs.size := hs₃.1.trans (hs₂.1.trans hs₁.1)
  have up₃ : ∀ b o, b ≠ e → h₁.get? b = some o → h₃.get? b = some o := fun b o hb x => hs₃.extBut b o hb (hs₂.extBut b o hb x)
  show wpAny _ _ (newTuple [.int i (tk + 1), .str ⟨#[c]⟩ tk] >>= _) _ _ ⟨h₃, g, d, tk + 2, os⟩
  refine wpAny_bind (wpAny_newTuple ?_)
  show wpAny _ _ (Builtin.SmallTypes.ownedTupleIsFree (.ref e) >>= _) _ _ ⟨_, g, d, tk + 2, os⟩
  rw [hz₃]
  generalize hH : h₃.push { cls := .type "tuple", data := .seq #[.int i (tk + 1), .str ⟨#[c]⟩ tk] } = H
  have heH : IsEnum H e it (i + 1) old := hH ▸ Heap.get?_push_of_some _ he₃
  have htH : H.get? hp.objs.size = some { cls := .type "tuple", data := .seq #[.int i (tk + 1), .str ⟨#[c]⟩ tk] } := by rw [← hH, ← hz₃]; exact Heap.get?_push_size _ rfl
  have hzH : H.objs.size = hp.objs.size + 1 := by rw [← hH, Heap.size_push, hz₃]
  have upH : ∀ b o, b ≠ e → h₁.get? b = some o → H.get? b = some o := fun b o hb x => hH ▸ Heap.get?_push_of_some _ (up₃ b o hb x)
  have okH : Ok H := hfr _ _ ok₁ fun o x => upH it o (Ne.symm hne) x
  clear hH he₃ hs₃ he₂ hs₂ up₃ hz₃
  refine wpAny_bind ?_
  unfold Builtin.SmallTypes.ownedTupleIsFree
  refine wpAny_bind (wpAny_field heH rfl (x := .none) rfl (wpAny_pure ?_))
  simp only [if_true]
  refine wpAny_bind (wpAny_rule ?_)
  refine wpAny_bind (wpAny_field heH rfl (x := old) rfl ?_)
  refine wpAny_bind (wpAny_setField_rec heH (by simp) fun h₅ he₅ hs₅ => ?_)
  replace he₅ : IsEnum h₅ e it (i + 1) (.str ⟨#[c]⟩ tk) := he₅
  show wpAny _ _ (Builtin.SmallTypes.ownedTupleHandOut (.ref e) (.ref hp.objs.size) >>= _) _ _ ⟨h₅, g, d, tk + 2, os⟩
  refine wpAny_bind ?_
  unfold Builtin.SmallTypes.ownedTupleHandOut
  refine wpAny_bind (wpAny_setField_rec he₅ (by simp) fun h₆ he₆ hs₆ => ?_)
  replace he₆ : IsEnumOut h₆ e it (i + 1) (.str ⟨#[c]⟩ tk) hp.objs.size := he₆
  refine wpAny_setField_rec he₆ (by simp) fun h₇ he₇ hs₇ => ?_
  replace he₇ : IsEnumOut h₇ e it (i + 1) (.str ⟨#[c]⟩ tk) hp.objs.size := he₇
  have up₇ : ∀ b o, b ≠ e → H.get? b = some o → h₇.get? b = some o := fun b o hb x => hs₇.extBut b o hb (hs₆.extBut b o hb (hs₅.extBut b o hb x))
  refine wpAny_bind (wpAny_letGo (wpAny_pure ⟨_, rfl, hQ h₇ he₇ (hfr _ _ okH fun o x => up₇ it o (Ne.symm hne) x) (up₇ _ _ (Nat.ne_of_gt hel) htH) ?_ ?_⟩))
  · rw [hs₇.1, hs₆.1, hs₅.1, hzH]
  · exact fun b o hbe hbi x => up₇ b o hbe (upH b o hbe (hs₁.extBut b o hbi x))
theorem pyNext_enum_now {e it : Addr} {i : Int} {c : Nat} {old : Value} {Ok : Heap → Prop} {Q : Option Value → Shared → Prop} (D : DrawsNow prog w A.in1 s it c Ok)
    (hfr : ∀ h h', Ok h → (∀ o, h.get? it = some o → h'.get? it = some o) → Ok h') (he : IsEnum s.heap e it i old) (hne : e ≠ it)
    (hQ : ∀ h', IsEnumOut h' e it (i + 1) (.str ⟨#[c]⟩ s.toks) s.heap.objs.size → Ok h' → h'.get? s.heap.objs.size = some { cls := .type "tuple", data := .seq #[.int i (s.toks + 1), .str ⟨#[c]⟩ s.toks] } →
      h'.objs.size = s.heap.objs.size + 1 → (∀ b o, b ≠ e → b ≠ it → s.heap.get? b = some o → h'.get? b = some o) → Q (some (.ref s.heap.objs.size)) { s with heap := h', toks := s.toks + 2 }) :
    wpAny (model prog w) A (pyNext (.ref e)) Q E s := by
  have hT : s.TypeIs (.ref e) "enumerate" := ⟨_, he, rfl⟩
  unfold pyNext
  exact wpAny_bind (wpAny_attempt (wpAny_callSpecial?_slot (name := Str.ofString "__next__") hT F.slot_enumerate_next
    (wpAny_call_entry F.slot_enumerate_next hT F.entry_enumerate_next
      (enum_next_now D hfr he hne fun h' a b c d k => wpAny_pure (hQ h' a b c d k)) (F.args_enumerate_next_1 _))))
end
/-- a turn's end, or the leaving -/
noncomputable def EnEnd (g : Heap) (L : Addr) (s : Shared) (led : List (Addr × Obj)) (J : (Str → Option Value) → Prop) (Q : Flow → Shared → Prop) (f : Flow) (s₂ : Shared) : Prop :=
  match f with
  | .ret v => Q (.ret v) s₂
  | .brk => Q .next s₂
  | _ => ∃ h' tk m', s₂ = { s with heap := h', toks := tk } ∧ Fr g L h' m' ∧ News g L h' led ∧ J m'
noncomputable def EnSrc (prog : Program) (w : World) (A : Around) (g : Heap) (env : Env) (xi xc : Str) (body orelse : List Stmt) (Q : Flow → Shared → Prop) (E : Value → Shared → Prop) (xv : Value) (s : Shared) : Prop :=
  ∃ (e it : Addr) (x : Str) (t : Tok) (n₀ : Nat) (news : List (Addr × Obj)) (m : Str → Option Value) (J : Nat → (Str → Option Value) → Prop),
    xv = .ref e ∧ IsEnum s.heap e it 0 .none ∧ s.heap.IsStrIter it (strIterType x) x t 0 ∧ e ≠ it ∧ env.locals < it ∧ env.locals < e ∧ (∀ p ∈ news, p.1 < it ∧ p.1 < e) ∧ n₀ ≤ s.toks ∧
    Fr g env.locals s.heap m ∧ News g env.locals s.heap news ∧ J 0 m ∧
    (∀ i c ti tc h tk m' oe oi, x.cps[i]? = some c → n₀ ≤ tc → J i m' → Fr g env.locals h (fun z => if z = xc then some (.str ⟨#[c]⟩ tc) else if z = xi then some (.int (i : Nat) ti) else m' z) → News g env.locals h ((e, oe) :: (it, oi) :: news) →
      wpAny (model prog w) A (execs body env) (EnEnd g env.locals { s with heap := h, toks := tk } ((e, oe) :: (it, oi) :: news) (J (i + 1)) Q) E { s with heap := h, toks := tk }) ∧
    ∀ h tk m', Fr g env.locals h m' → News g env.locals h news → J x.cps.size m' → wpAny (model prog w) A (execs orelse env) Q E { s with heap := h, toks := tk }
section
variable {prog : Program} {w : World} {A : Around} {E : Value → Shared → Prop} {s : Shared} {env : Env} {g : Heap} {Q : Flow → Shared → Prop}
theorem drawsNow {it : Addr} {x : Str} {t : Tok} {i c : Nat} (hit : s.heap.IsStrIter it (strIterType x) x t i) (hc : x.cps[i]? = some c) : DrawsNow prog w A s it c (fun h => h.IsStrIter it (strIterType x) x t (i + 1)) := by
  intro Q E hQ
  unfold strIterType at hit hQ
  cases ha : x.cps.all (· < 128)
  · rw [ha] at hit hQ
    exact wpAny_nextOf_wide_item hit hc fun h' a b => hQ h' a b
  · rw [ha] at hit hQ
    exact wpAny_nextOf_ascii_item hit hc fun h' a b => hQ h' a b
theorem pyNext_enum_over {e it : Addr} {x : Str} {t : Tok} {i : Int} {old : Value} {Q : Option Value → Shared → Prop} (hh : A.handled = none) (he : IsEnum s.heap e it i old) (hit : s.heap.IsStrIter it (strIterType x) x t x.cps.size)
    (hQ : ∀ h', Heap.ExtBut it s.heap h' → Q none { s with heap := h' }) : wpAny (model prog w) A (pyNext (.ref e)) Q E s := by
  unfold strIterType at hit
  cases ha : x.cps.all (· < 128)
  · rw [ha] at hit
    exact wpAny_pyNext_enum_endD (Draws.strWide (A := A.in1) hh it x t) he hit hQ
  · rw [ha] at hit
    exact wpAny_pyNext_enum_endD (Draws.strAscii (A := A.in1) hh it x t) he hit hQ
/-- for i, c in enumerate(a text), with an else -/
theorem For_enum {xi xc : Str} {pi pc pt pos : Pos} {k : Nat} {iter : PySem.Expr} {body orelse : List Stmt} {m₀ : Str → Option Value} (_F₀ : Fr g env.locals s.heap m₀) (hh : A.handled = none)
    (hxi : env.kindOf xi = some .local) (hxc : env.kindOf xc = some .local) (hp : (env.scope.kind == .class || (env.scope.kind == .module && env.locals != env.globals)) = false)
    (h : wpAny (model prog w) A (eval iter env) (EnSrc prog w A g env xi xc body orelse Q E) E s)
    (hs : ∀ x, foldedSetIterable iter env x = pure x := by intro _; rfl)
    (hE : PassesOwn (model prog w) A env E := by passes_own) :
    wpAny (model prog w) A (exec (.For (.Tuple [.Name xi pi, .Name xc pc] k pt) iter body orelse pos) env) Q E s := by
  refine wpAny_For (wpAny_mono h (fun xv s₁ h₁ => ?_) fun _ _ e => e) hs
  obtain ⟨e, it, x, t, n₀, news, m, J, rfl, he, hit, hei, hLi, hLe, hnw, hn₀, F, N, h0, turn, done⟩ := h₁
  refine wpAny_pyIter_enum he ?_
  have hgl : ∀ b, env.locals ≤ b → g.get? b = none := fun b hb => by
    cases q : g.get? b with
    | none => rfl
    | some o => exact absurd (Heap.lt_size q) (Nat.not_lt.mpr (Nat.le_trans F.above hb))
  have hge := hgl e (Nat.le_of_lt hLe)
  have hgi := hgl it (Nat.le_of_lt hLi)
  have eL : e ≠ env.locals := Nat.ne_of_gt hLe
  have iL : it ≠ env.locals := Nat.ne_of_gt hLi
  refine codeAny_forLoop_any
    (fun k s' => ∃ h' tk i m' old, s' = { s₁ with heap := h', toks := tk } ∧ n₀ ≤ tk ∧ i ≤ x.cps.size ∧ k = x.cps.size + 1 - i ∧ IsEnum h' e it ((i : Nat) : Int) old ∧ h'.IsStrIter it (strIterType x) x t i ∧ Fr g env.locals h' m' ∧ News g env.locals h' news ∧ J i m') ?_ (x.cps.size + 1)
    ⟨s₁.heap, s₁.toks, 0, m, .none, rfl, hn₀, Nat.zero_le _, rfl, he, hit, F, N, h0⟩
  rintro k s' ⟨h', tk, i, m', old, rfl, htk, hi, rfl, he', hit', F', N', hJ⟩
  have frN : ∀ {h'' : Heap}, (∀ b o, b ≠ e → b ≠ it → h'.get? b = some o → h''.get? b = some o) → Fr g env.locals h'' m' ∧ News g env.locals h'' news := fun hk =>
    ⟨⟨F'.ns.at' fun o q => hk _ o (Ne.symm eL) (Ne.symm iL) q, fun b o q => hk b o (fun r => by rw [r, hge] at q; cases q) (fun r => by rw [r, hgi] at q; cases q) (F'.keep b o q), F'.above⟩, fun p hp' => ⟨hk _ _ (Nat.ne_of_lt (hnw p hp').2) (Nat.ne_of_lt (hnw p hp').1) (N' p hp').1, (N' p hp').2⟩⟩
  by_cases hlt : i < x.cps.size
  · have hc : x.cps[i]? = some x.cps[i] := Array.getElem?_eq_getElem hlt
    refine pyNext_enum_now (drawsNow hit' hc) (fun h h' a k => let ⟨o, q, r⟩ := a; ⟨o, k o q, r⟩) he' hei fun h₁ ho hit₁ hT hz hk => ?_
    have hee : e < h'.objs.size := Heap.lt_size he'
    dsimp only at hT ho hz ⊢
    refine wpAny_letOwnedTupleGo_enum ho fun h₂ he₂ hs₂ => ?_
    replace hs₂ : Heap.SameBut e h₁ h₂ := hs₂
    have ht₂ : h₂.IsTuple h'.objs.size #[.int i (tk + 1), .str ⟨#[x.cps[i]]⟩ tk] := ⟨_, (hs₂.2 _ (Nat.ne_of_gt hee)).trans hT, rfl, _, rfl⟩
    have hz₂ : h₂.objs.size = h'.objs.size + 1 := hs₂.1.trans hz
    refine wpAny_assign_Tuple hh ht₂ rfl rfl fun h₃ hx₃ => ?_
    replace hx₃ : Heap.ExtBut h₂.objs.size h₂ h₃ := hx₃
    have up₃ : ∀ b o, b < h'.objs.size → h₂.get? b = some o → h₃.get? b = some o := fun b o hb q => hx₃ b o (by rw [hz₂]; exact Nat.ne_of_lt (Nat.lt_succ_of_lt hb)) q
    obtain ⟨oi, hoi, hoi'⟩ := hit₁
    have hii : it < h'.objs.size := by obtain ⟨_, q, _⟩ := hit'; exact Heap.lt_size q
    have hi₃ : h₃.get? it = some oi := up₃ it oi hii (hs₂.extBut it oi (Ne.symm hei) hoi)
    have he₃ : IsEnum h₃ e it ((i : Int) + 1) (.str ⟨#[x.cps[i]]⟩ tk) := up₃ e _ hee he₂
    have hk₃ : ∀ b o, b ≠ e → b ≠ it → h'.get? b = some o → h₃.get? b = some o := fun b o h1 h2 q => up₃ b o (Heap.lt_size q) (hs₂.extBut b o h1 (hk b o h1 h2 q))
    obtain ⟨F₃, N₃⟩ := frN hk₃
    show wpAny _ A (do holding [.str ⟨#[x.cps[i]]⟩ tk] (assign (.Name xi pi) env (.int i (tk + 1))); do holding [] (assign (.Name xc pc) env (.str ⟨#[x.cps[i]]⟩ tk)); pure ()) _ _ _
    refine wpAny_bind (wpAny_holding (wpAny_assign_Name (wpAny_storeName_local hxi F₃.ns (fun h₄ hn₄ hs₄ => ?_) hp)))
    have F₄ := F₃.set hn₄ hs₄
    have N₄ := N₃.set hs₄
    refine wpAny_bind (wpAny_holding (wpAny_assign_Name (wpAny_storeName_local hxc F₄.ns (fun h₅ hn₅ hs₅ => wpAny_pure ?_) hp)))
    have F₅ := F₄.set hn₅ hs₅
    have N₅ := News.set N₄ hs₅
    have he₅ := hs₅.extBut e _ eL (hs₄.extBut e _ eL he₃)
    have hi₅ := hs₅.extBut it _ iL (hs₄.extBut it _ iL hi₃)
    have NN : News g env.locals h₅ ((e, { cls := .type "enumerate", dict := none, data := .fields #[.none, .bool false, .ref it, rawInt ((i : Int) + 1), .none, .str ⟨#[x.cps[i]]⟩ tk], slots := #[] }) :: (it, oi) :: news) := by
      intro p hp'
      rcases List.mem_cons.mp hp' with rfl | hp'
      · exact ⟨he₅, eL, hge⟩
      rcases List.mem_cons.mp hp' with rfl | hp'
      · exact ⟨hi₅, iL, hgi⟩
      · exact N₅ p hp'
    refine wpAny_with_toks (n := n₀) (by dsimp only; omega) (wpAny_mono (turn i _ _ _ h₅ _ m' _ _ hc htk hJ F₅ NN) (fun f s₄ h₄ hle => ?_) fun _ _ q _ => hE _ _ q)
    cases f with
    | ret v => exact h₄
    | brk => exact h₄
    | next =>
      obtain ⟨h₆, tk₆, m₆, rfl, F₆, N₆, hJ₆⟩ := h₄
      have ze := (N₆ _ (.head _)).1
      have zi := (N₆ _ (.tail _ (.head _))).1
      exact ⟨x.cps.size + 1 - (i + 1), by omega, h₆, tk₆, i + 1, m₆, _, rfl, hle, hlt, rfl, ze, ⟨oi, zi, hoi'⟩, F₆, fun p hp' => N₆ p (.tail _ (.tail _ hp')), hJ₆⟩
    | cont =>
      obtain ⟨h₆, tk₆, m₆, rfl, F₆, N₆, hJ₆⟩ := h₄
      have ze := (N₆ _ (.head _)).1
      have zi := (N₆ _ (.tail _ (.head _))).1
      exact ⟨x.cps.size + 1 - (i + 1), by omega, h₆, tk₆, i + 1, m₆, _, rfl, hle, hlt, rfl, ze, ⟨oi, zi, hoi'⟩, F₆, fun p hp' => N₆ p (.tail _ (.tail _ hp')), hJ₆⟩
  · have hin : i = x.cps.size := Nat.le_antisymm hi (Nat.not_lt.mp hlt)
    subst hin
    refine pyNext_enum_over hh he' hit' fun h₁ hx => ?_
    obtain ⟨F₁, N₁⟩ := frN fun b o _ h2 q => hx b o h2 q
    exact wpAny_mono (done h₁ tk m' F₁ N₁ hJ) (fun _ _ q => q) fun _ _ q => hE _ _ q
end
end Mine
end
theorem Mine.rs40 : True := by k_with_none; w_top off; trivial
section
open PySem PySem.W PyProof.Rows PySem.Calls PyProof.V PySem.Spec
set_option maxRecDepth 100000
set_option maxHeartbeats 8000000
namespace Mine
theorem NoneBooked.fr {g h : Heap} {L : Addr} {m : Str → Option Value} (B : NoneBooked g) (F : Fr g L h m) : NoneBooked h :=
  let ⟨mc, hn, k⟩ := B; ⟨mc, hn.at' fun o e => F.keep _ _ e, k⟩
theorem is_str {M : Model} {A : Around} {E : Value → Shared → Prop} {s : Shared} {x y : Str} {t u : Nat} {Q : Value → Shared → Prop} (hb : NoneBooked s.heap) (ht : 0 < t) (hu : 0 < u) (hn : t ≠ u)
    (h1 : x ≠ y → Q (.bool false) s) (h2 : x = y → ∀ b, Q (.bool b) s) : wpAny M A (compareOp .Is (.str x t) (.str y u)) Q E s := by
  have h0 : (t == 0 || u == 0) = false := by simp; exact ⟨Nat.ne_of_gt ht, Nat.ne_of_gt hu⟩
  show wpAny M A (do return .bool (← isSame (.str x t) (.str y u))) Q E s
  refine wpAny_bind ?_
  cases hxy : (x == y)
  · refine wpAny_of_eq (isSame_str_other x y t u h0 (beq_eq_false_iff_ne.mpr hn) hxy) (wpAny_pure (h1 (beq_eq_false_iff_ne.mp hxy)))
  · exact wpAny_isSame_str h0 hb fun b => wpAny_pure (h2 (beq_iff_eq.mp hxy) b)
theorem call_enum_text {prog : Program} {w : World} {A : Around} {E : Value → Shared → Prop} {s : Shared} {g : Heap} {L : Addr} {m : Str → Option Value} {news : List (Addr × Obj)} {x : Str} {t : Tok} {Q : Value → Shared → Prop} (F : Fr g L s.heap m) (N : News g L s.heap news)
    (h : ∀ h' e it, IsEnum h' e it 0 .none → h'.IsStrIter it (strIterType x) x t 0 → e ≠ it → L < it → L < e → (∀ p ∈ news, p.1 < it ∧ p.1 < e) → Fr g L h' m → News g L h' news → Q (.ref e) { s with heap := h' }) :
    wpAny (model prog w) A (call (.type "enumerate") [.str x t]) Q E s := by
  refine call_enumerate_str fun h' he hi hz hk => ?_
  have hL := F.ns.lt
  have z : ∀ p ∈ news, p.1 < s.heap.objs.size := fun p hp => Heap.lt_size (N p hp).1
  exact h h' _ _ he hi (Nat.ne_of_gt (Nat.lt_succ_self _)) hL (Nat.lt_succ_of_lt hL) (fun p hp => ⟨z p hp, Nat.lt_succ_of_lt (z p hp)⟩) (F.keeps hk) (N.grown hk)
theorem idx_of : ∀ (l : List Nat) (i d : Nat), l[i]? = some d → (∀ k, k < i → l[k]? ≠ some d) → l.idxOf d = i
  | [], i, d, h, _ => by simp at h
  | a :: l, 0, d, h, _ => by
    have : a = d := by simpa using h
    subst this
    exact List.idxOf_cons_self
  | a :: l, i + 1, d, h, hn => by
    have h0 : a ≠ d := by
      have := hn 0 (Nat.zero_lt_succ _)
      simpa using this
    have e := idx_of l i d (by simpa using h) (fun k hk => by simpa using hn (k + 1) (Nat.succ_lt_succ hk))
    rw [List.idxOf_cons, beq_eq_false_iff_ne.mpr h0, e]
    rfl
theorem beq_no1 {x y : Str} (h : x ≠ y) (e : (x == y) = true) : False := h (beq_iff_eq.mp e)
theorem beq_no2 {x y : Str} (h : x = y) (e : (x == y) = false) : False := beq_eq_false_iff_ne.mp e h
theorem one_ne {c d : Nat} (h : (⟨#[c]⟩ : Str) ≠ ⟨#[d]⟩) : c ≠ d := fun e => h (by rw [e])
abbrev nI := Str.ofString "i"
abbrev nJ := Str.ofString "j"
abbrev nB := Str.ofString "b"
/-- a turn's end of the search -/
noncomputable def IxEnd (g : Heap) (L : Addr) (s : Shared) (led : List (Addr × Obj)) (y : Str) (ty : Tok) (c d : Nat) (Q : Flow → Shared → Prop) (f : Flow) (s₂ : Shared) : Prop :=
  match f with
  | .ret v => Q (.ret v) s₂
  | .brk => Q .next s₂
  | _ => c ≠ d ∧ ∃ h' tk m', s₂ = { s with heap := h', toks := tk } ∧ Fr g L h' m' ∧ News g L h' led ∧ m' nB = some (.str y ty)
theorem IxEnd.intro {g h' : Heap} {L : Addr} {s : Shared} {led : List (Addr × Obj)} {y : Str} {ty : Tok} {c d tk : Nat} {m' : Str → Option Value} {Q : Flow → Shared → Prop} (hn : c ≠ d) (F : Fr g L h' m') (N : News g L h' led) (e : m' nB = some (.str y ty)) :
    IxEnd g L s led y ty c d Q .next { s with heap := h', toks := tk } := ⟨hn, h', tk, m', rfl, F, N, e⟩
theorem IxEnd.ret {g : Heap} {L : Addr} {s s₂ : Shared} {led : List (Addr × Obj)} {y : Str} {ty : Tok} {c d : Nat} {v : Value} {Q : Flow → Shared → Prop} (h : Q (.ret v) s₂) : IxEnd g L s led y ty c d Q (.ret v) s₂ := h
section
variable {prog : Program} {w : World} {A : Around} {E : Value → Shared → Prop} {s : Shared} {env : Env} {g : Heap} {Q : Flow → Shared → Prop}
theorem index_src {body orelse : List Stmt} {e it : Addr} {x : Str} {t ty : Tok} {n₀ d : Nat} {m : Str → Option Value} {y : Str}
    (he : IsEnum s.heap e it 0 .none) (hi : s.heap.IsStrIter it (strIterType x) x t 0) (hne : e ≠ it) (h1 : env.locals < it) (h2 : env.locals < e) (hn : n₀ ≤ s.toks)
    (F : Fr g env.locals s.heap m) (N : News g env.locals s.heap []) (eb : m nB = some (.str y ty)) (hd : ∃ i : Nat, x.cps[i]? = some d)
    (turn : ∀ (i c : Nat) ti tc h tk (u : Str → Option Value) oe oi, x.cps[i]? = some c → n₀ ≤ tc → (∀ k, k < i → x.cps[k]? ≠ some d) →
      Fr g env.locals h (fun z => if z = nJ then some (.str ⟨#[c]⟩ tc) else if z = nI then some (.int (i : Nat) ti) else if z = nB then some (.str y ty) else u z) → News g env.locals h [(e, oe), (it, oi)] →
      wpAny (model prog w) A (execs body env) (IxEnd g env.locals { s with heap := h, toks := tk } [(e, oe), (it, oi)] y ty c d Q) E { s with heap := h, toks := tk }) :
    EnSrc prog w A g env nI nJ body orelse Q E (.ref e) s := by
  refine ⟨e, it, x, t, n₀, [], m, fun i m' => (∀ k, k < i → x.cps[k]? ≠ some d) ∧ m' nB = some (.str y ty), rfl, he, hi, hne, h1, h2, (fun _ h => nomatch h), hn, F, N, ⟨(fun k h => absurd h (Nat.not_lt_zero k)), eb⟩, ?_, ?_⟩
  · rintro i c ti tc h tk m' oe oi hc htc ⟨hno, eb'⟩ F' N'
    rw [pin5 (m := fun z => if z = nJ then some (.str ⟨#[c]⟩ tc) else if z = nI then some (.int (i : Nat) ti) else m' z) (a := nJ) (b := nI) (c := nB) (d := nB) (e := nB) (va := .str ⟨#[c]⟩ tc) (vb := .int (i : Nat) ti) (vc := .str y ty) (vd := .str y ty) (ve := .str y ty) (if_pos rfl)
      (by show (if nI = nJ then _ else if nI = nI then _ else m' nI) = _; rw [if_neg (by decide), if_pos rfl]) (by show (if nB = nJ then _ else if nB = nI then _ else m' nB) = _; rw [if_neg (by decide), if_neg (by decide)]; exact eb')
      (by show (if nB = nJ then _ else if nB = nI then _ else m' nB) = _; rw [if_neg (by decide), if_neg (by decide)]; exact eb') (by show (if nB = nJ then _ else if nB = nI then _ else m' nB) = _; rw [if_neg (by decide), if_neg (by decide)]; exact eb')] at F'
    refine wpAny_mono (turn i c ti tc h tk _ oe oi hc htc hno F' N') (fun f s₂ q => ?_) fun _ _ q => q
    cases f with
    | ret v => exact q
    | brk => exact q
    | next =>
      obtain ⟨hcd, h₃, tk₃, m₃, rfl, F₃, N₃, e₃⟩ := q
      refine ⟨h₃, tk₃, m₃, rfl, F₃, N₃, fun k hk => ?_, e₃⟩
      rcases Nat.lt_or_ge k i with q | q
      · exact hno k q
      · have : k = i := by omega
        subst this
        rw [hc]
        exact fun q => hcd (Option.some.inj q)
    | cont =>
      obtain ⟨hcd, h₃, tk₃, m₃, rfl, F₃, N₃, e₃⟩ := q
      refine ⟨h₃, tk₃, m₃, rfl, F₃, N₃, fun k hk => ?_, e₃⟩
      rcases Nat.lt_or_ge k i with q | q
      · exact hno k q
      · have : k = i := by omega
        subst this
        rw [hc]
        exact fun q => hcd (Option.some.inj q)
  · rintro h tk m' F' N' ⟨hno, _⟩
    obtain ⟨i, hi⟩ := hd
    exact absurd hi (hno i (Array.getElem?_eq_some_iff.mp hi).1)
end
end Mine
end
theorem Mine.rs41 : True := by k_with_none; w_top off; trivial
section
open PySem PySem.W PyProof.Rows PySem.Calls PyProof.V PySem.Spec
set_option maxRecDepth 100000
set_option maxHeartbeats 8000000
namespace Mine
theorem fillCtI : (fun (_ : OpenLaw) (_ : Params → Frag) => True) PySem.Challenge.rw_wo0061_01 KK := by
  k_fill
  trivial

theorem indexOf_ct {w : World} {mean : ExcName → Option Value} {mg mb : Str → Option Value} {ls : List Str} {news : List (Addr × Obj)} {dp un : Nat} {gd : Option (List Code)} {cn : Str} {cs : Scope} {a : Addr} {ccd : Value} {cl : List (Str × Addr)} {outer : List Env} {A₀ : Around} {base h₀ : Heap} {L : Addr} {m : Str → Option Value} {s : Shared} {Q E : Value → Shared → Prop} {x : Str} {d : Nat} {tx : Tok} {ty : Nat}
    (k1 : Below A₀ base outer h₀) (k2 : Fr h₀ L s.heap m) (k3 : (KK w.params).In h₀) (k4 : News h₀ L s.heap news) (k5 : Top vw ls mean mg mb h₀) (kK : cs.kind = .function) (kd : dp + 4 < recursionLimit) (ku : un + 40 < cLine)
    (hx : x.length ≤ 6) (hd : d ∈ x.cps.toList) (hB : NoneBooked h₀) (ht0 : 0 < ty) (ht1 : ty < s.toks)
    (ret : ∀ (t : Tok) (h' : Heap) (tk' : Nat), 0 < tk' → Fr h₀ L h' m → News h₀ L h' news → Q (.int ((x.cps.toList.idxOf d : Nat) : Int) t) { s with heap := h', toks := tk' }) :
    wpAny (model P w) (ktrTop dp un gd cn cs L a ccd cl outer) (call (.ref 56) [.str x tx, .str ⟨#[d]⟩ ty]) Q E s := by
  k_with_none
  (k_with "exec For Tuple Call cons cons" => (k_here; k_dflt (refine' For_enum ?F0 ?hh ?hx ?hy ?hp ?_; (case F0 => k_asm); (case hh => exact rfl); (case hx => exact rfl); (case hy => exact rfl); (case hp => exact rfl))))
  (k_with "call type:enumerate" => (k_here; k_dflt (refine' call_enum_text ?F ?N ?_; (case F => k_asm); (case N => k_asm); k_whole); intro h'zz e'zz it'zz he'zz hi'zz hn'zz l1'zz l2'zz l3'zz F'zz N'zz))
  (k_with "compareOp Is str str" => (k_here; k_dflt (refine' is_str ?B ?t ?u ?n ?_ ?_; (case B => exact NoneBooked.fr (by assumption) (by k_asm)); (case t => omega); (case u => omega); (case n => omega); k_whole); (first | intro hxy'zz b'zz | intro hxy'zz)))
  refine wpAny_with_toks (n := s.toks) (Nat.le_refl _) ?_
  refine wpAny_call ?_
  k_dflt (refine' code_own [] ?kO ?k1 ?k2 ?k3 ?k4 ?k5 ?kA ?kF ?kK ?k6 ?k7 ?k8 ?k9 ?kB ?_ ?c2 ?c3 ?c4 ?c5; (case kO => intro q hq; cases hq); (case kA => exact rfl); (case kF => exact rfl); (case kK => assumption); (case k1 => k_asm); (case k2 => k_asm); (case k3 => k_asm); (case k4 => k_asm); (case k5 => k_asm); (case k6 => k_is); (case k7 => k_is); (case k8 => ktr_room); (case k9 => exact BindsTo.of_eq rfl); (case c5 => decide); (case kB => exact locs rfl); (case c2 => exact rfl); (case c3 => exact rfl); (case c4 => exact rfl); k_whole; intro g' L' h' hG' FG' F' N' B' X' T'; (try dsimp only); (try k_lift B'); (try k_fold))
  have hB' := NoneBooked.fr hB FG'
  k_steps
  obtain ⟨i0, hi0⟩ : ∃ i : Nat, x.cps[i]? = some d := by
    obtain ⟨i, hi⟩ := List.getElem?_of_mem hd
    exact ⟨i, by rw [← Array.getElem?_toList]; exact hi⟩
  k_dflt (refine index_src (n₀ := s.toks) (by assumption) (by assumption) (by assumption) (by assumption) (by assumption) ?hn (by k_asm) (by k_asm) (by rfl) ⟨i0, hi0⟩ ?turn)
  case hn => (dsimp only; omega)
  case turn =>
    intro i' c' ti' tc' h' tk' u' oe' oi' hc' htc' hno' F' N'
    k_steps
    · exact (beq_no1 (by assumption) (by assumption)).elim
    · exact IxEnd.intro (one_ne (by assumption)) (by assumption) (by assumption) (by with_unfolding_all rfl)
    · have hcd := PyProof.Rows.one_inj (c := c') (d := d) (by assumption)
      have e := idx_of x.cps.toList i' d (by rw [Array.getElem?_toList, hc', hcd]) (fun k hk => by rw [Array.getElem?_toList]; exact hno' k hk)
      refine IxEnd.ret ?_
      dsimp only
      k_steps
      have hle : s.toks ≤ tk' := by assumption
      rw [e] at ret
      exact ret _ _ _ (Nat.lt_of_lt_of_le (Nat.zero_lt_of_lt ht1) hle) (by assumption) (tail_back k4 hG' (by assumption) (by assumption) (fun q hq => nomatch hq))
    · have hcd := PyProof.Rows.one_inj (c := c') (d := d) (by assumption)
      have e := idx_of x.cps.toList i' d (by rw [Array.getElem?_toList, hc', hcd]) (fun k hk => by rw [Array.getElem?_toList]; exact hno' k hk)
      refine IxEnd.ret ?_
      dsimp only
      k_steps
      have hle : s.toks ≤ tk' := by assumption
      rw [e] at ret
      exact ret _ _ _ (Nat.lt_of_lt_of_le (Nat.zero_lt_of_lt ht1) hle) (by assumption) (tail_back k4 hG' (by assumption) (by assumption) (fun q hq => nomatch hq))
    · exact (beq_no2 (by assumption) (by assumption)).elim


end Mine
end
theorem Mine.rs42 : True := by k_with_none; w_top off; trivial
section
open PySem PySem.W PyProof.Rows PySem.Calls PyProof.V PySem.Spec
set_option maxRecDepth 100000
set_option maxHeartbeats 8000000
namespace Mine
abbrev nCount := Str.ofString "count"
abbrev nIi := Str.ofString "i"
abbrev nBb := Str.ofString "b"
noncomputable def cntB (bs : List Bool) : Int := (bs.count true : Nat)
/-- a turn's end of the count -/
noncomputable def CnEnd (g : Heap) (L : Addr) (s : Shared) (I : Addr) (oI : Obj) (l : Addr) (bs : List Bool) (k : Int) (Q : Flow → Shared → Prop) (f : Flow) (s₂ : Shared) : Prop :=
  match f with
  | .ret v => Q (.ret v) s₂
  | .brk => Q .next s₂
  | _ => ∃ h' tk m' tc, s₂ = { s with heap := h', toks := tk } ∧ Fr g L h' m' ∧ News g L h' [(I, oI), (l, LCg.lst (bs.map Value.bool))] ∧ m' nCount = some (.int k tc) ∧ m' nBb = some (.bool true)
theorem CnEnd.intro {g h' : Heap} {L : Addr} {s : Shared} {I l : Addr} {oI : Obj} {bs : List Bool} {k : Int} {tk : Nat} {tc : Tok} {m' : Str → Option Value} {Q : Flow → Shared → Prop} (F : Fr g L h' m') (N : News g L h' [(I, oI), (l, LCg.lst (bs.map Value.bool))])
    (e1 : m' nCount = some (.int k tc)) (e2 : m' nBb = some (.bool true)) : CnEnd g L s I oI l bs k Q .next { s with heap := h', toks := tk } := ⟨h', tk, m', tc, rfl, F, N, e1, e2⟩
section
variable {prog : Program} {w : World} {A : Around} {E : Value → Shared → Prop} {s : Shared} {env : Env} {g : Heap} {Q : Flow → Shared → Prop}
theorem count_src {body : List Stmt} {l : Addr} {bs : List Bool} {m : Str → Option Value} {t0 : Tok}
    (F : Fr g env.locals s.heap m) (N : News g env.locals s.heap [(l, LCg.lst (bs.map Value.bool))]) (e1 : m nCount = some (.int 0 t0)) (e2 : m nBb = some (.bool true)) (hl : bs.length ≤ 36)
    (turn : ∀ (b : Bool) (k : Int) tc (u : Str → Option Value) h tk I oI, 0 ≤ k → k ≤ 36 → (@Ne Nat l I) →
      Fr g env.locals h (fun z => if z = nIi then some (.bool b) else if z = nCount then some (.int k tc) else if z = nBb then some (.bool true) else u z) → News g env.locals h [(I, oI), (l, LCg.lst (bs.map Value.bool))] →
      wpAny (model prog w) A (execs body env) (CnEnd g env.locals { s with heap := h, toks := tk } I oI l bs (k + if b then 1 else 0) Q) E { s with heap := h, toks := tk })
    (done : ∀ h tk tc (u : Str → Option Value), Fr g env.locals h (fun z => if z = nCount then some (.int (cntB bs) tc) else if z = nBb then some (.bool true) else u z) → News g env.locals h [(l, LCg.lst (bs.map Value.bool))] → Q .next { s with heap := h, toks := tk }) :
    LiSrc prog w A g env nIi body Q E (.ref l) s := by
  refine ⟨l, LCg.lst (bs.map Value.bool), bs.map Value.bool, _, _, m, fun i m' nw => i ≤ bs.length ∧ nw = [(l, LCg.lst (bs.map Value.bool))] ∧ ∃ tc, m' nCount = some (.int (cntB (bs.take i)) tc) ∧ m' nBb = some (.bool true), rfl, rfl, rfl, F, N, ⟨Nat.zero_le _, rfl, t0, e1, e2⟩, ?_, ?_, ?_⟩
  · rintro i m' nw ⟨_, rfl, _⟩
    exact .head _
  · rintro i v m' nw h tk I oI hv ⟨_, rfl, tc, f1, f2⟩ hnI F' N'
    rw [List.getElem?_map] at hv
    obtain ⟨b, hb, rfl⟩ := Option.map_eq_some_iff.mp hv
    have hlt : i < bs.length := (List.getElem?_eq_some_iff.mp hb).1
    have F'' := F'
    rw [pin5 (m := fun z => if z = nIi then some (.bool b) else m' z) (a := nIi) (b := nCount) (c := nBb) (d := nBb) (e := nBb) (va := .bool b) (vb := .int (cntB (bs.take i)) tc) (vc := .bool true) (vd := .bool true) (ve := .bool true) (if_pos rfl)
      (by show (if nCount = nIi then _ else m' nCount) = _; rw [if_neg (by decide)]; exact f1) (by show (if nBb = nIi then _ else m' nBb) = _; rw [if_neg (by decide)]; exact f2)
      (by show (if nBb = nIi then _ else m' nBb) = _; rw [if_neg (by decide)]; exact f2) (by show (if nBb = nIi then _ else m' nBb) = _; rw [if_neg (by decide)]; exact f2)] at F''
    have z1 := hnI _ (List.Mem.head _)
    have hc : cntB (bs.take i) ≤ 36 := by
      unfold cntB
      have h1 := List.count_le_length (a := true) (l := bs.take i)
      have h2 := List.length_take_le i bs
      omega
    have hst : cntB (bs.take i) + (if b then 1 else 0) = cntB (bs.take (i + 1)) := by
      unfold cntB
      rw [List.take_add_one, hb]
      simp only [Option.toList, List.count_append, List.count_cons, List.count_nil]
      cases b <;> simp
    refine wpAny_mono (turn b _ tc _ h tk I oI (by unfold cntB; omega) hc z1 F'' N') (fun f s₂ q => ?_) fun _ _ e => e
    have off : ∀ p ∈ [(l, LCg.lst (bs.map Value.bool))], p.1 ≠ I := fun p hp => by rw [List.mem_singleton.mp hp]; exact z1
    cases f with
    | ret v => exact q
    | brk => exact q
    | next =>
      obtain ⟨h₃, tk₃, m₃, tc₃, rfl, F₃, N₃, f1, f2⟩ := q
      exact ⟨h₃, tk₃, m₃, _, rfl, F₃, N₃, off, hlt, rfl, tc₃, hst ▸ f1, f2⟩
    | cont =>
      obtain ⟨h₃, tk₃, m₃, tc₃, rfl, F₃, N₃, f1, f2⟩ := q
      exact ⟨h₃, tk₃, m₃, _, rfl, F₃, N₃, off, hlt, rfl, tc₃, hst ▸ f1, f2⟩
  · rintro h tk m' nw F' N' ⟨_, rfl, tc, f1, f2⟩
    rw [List.length_map, List.take_of_length_le (Nat.le_refl _)] at f1
    rw [pin5 (a := nCount) (b := nBb) (c := nBb) (d := nBb) (e := nBb) f1 f2 f2 f2 f2] at F'
    have F'' : Fr g env.locals h (fun z => if z = nCount then some (.int (cntB bs) tc) else if z = nBb then some (.bool true) else m' z) := by
      have e : (fun z => if z = nCount then some (.int (cntB bs) tc) else if z = nBb then some (.bool true) else m' z) = (fun z => if z = nCount then some (Value.int (cntB bs) tc) else if z = nBb then some (.bool true) else if z = nBb then some (.bool true) else if z = nBb then some (.bool true) else if z = nBb then some (.bool true) else m' z) := by
        funext z
        by_cases q : z = nBb <;> simp [q]
      rw [e]; exact F'
    exact done h tk tc _ F'' N'
end
end Mine
end
theorem Mine.rs43 : True := by k_with_none; w_top off; trivial
section
open PySem PySem.W PyProof.Rows PySem.Calls PyProof.V PySem.Spec
set_option maxRecDepth 100000
set_option maxHeartbeats 8000000
namespace Mine
theorem fillCtQ : (fun (_ : OpenLaw) (_ : Params → Frag) => True) PySem.Challenge.rw_wo0061_01 KK := by
  k_fill
  trivial

theorem countOf_ct {w : World} {mean : ExcName → Option Value} {mg mb : Str → Option Value} {ls : List Str} {news : List (Addr × Obj)} {dp un : Nat} {gd : Option (List Code)} {cn : Str} {cs : Scope} {a : Addr} {ccd : Value} {cl : List (Str × Addr)} {outer : List Env} {A₀ : Around} {base h₀ : Heap} {L : Addr} {m : Str → Option Value} {s : Shared} {Q E : Value → Shared → Prop} {l : Addr} {bs : List Bool}
    (k1 : Below A₀ base outer h₀) (k2 : Fr h₀ L s.heap m) (k3 : (KK w.params).In h₀) (k4 : News h₀ L s.heap news) (k5 : Top vw ls mean mg mb h₀) (kK : cs.kind = .function) (kd : dp + 4 < recursionLimit) (ku : un + 40 < cLine)
    (hl : (l, LCg.lst (bs.map Value.bool)) ∈ news) (hn : bs.length ≤ 36)
    (ret : ∀ (t : Tok) (h' : Heap) (tk' : Nat), Fr h₀ L h' m → News h₀ L h' news → Q (.int (cntB bs) t) { s with heap := h', toks := tk' }) :
    wpAny (model P w) (ktrTop dp un gd cn cs L a ccd cl outer) (call (.ref 49) [.ref l, .bool true]) Q E s := by
  k_with_none
  (k_with "exec For Name Name cons nil" => (k_here; k_dflt (refine For_list (by k_asm) (by rfl) (by rfl) (by rfl) ?_)))
  refine wpAny_call ?_
  k_dflt (refine' code_own [(l, LCg.lst (bs.map Value.bool))] ?kO ?k1 ?k2 ?k3 ?k4 ?k5 ?kA ?kF ?kK ?k6 ?k7 ?k8 ?k9 ?kB ?_ ?c2 ?c3 ?c4 ?c5; (case kO => intro q hq; rw [List.mem_singleton.mp hq]; exact hl); (case kA => exact rfl); (case kF => exact rfl); (case kK => assumption); (case k1 => k_asm); (case k2 => k_asm); (case k3 => k_asm); (case k4 => k_asm); (case k5 => k_asm); (case k6 => k_is); (case k7 => k_is); (case k8 => ktr_room); (case k9 => exact BindsTo.of_eq rfl); (case c5 => decide); (case kB => exact locs rfl); (case c2 => exact rfl); (case c3 => exact rfl); (case c4 => exact rfl); k_whole; intro g' L' h' hG' FG' F' N' B' X' T'; (try dsimp only); (try k_lift B'); (try k_fold))
  k_steps
  k_dflt (refine count_src (bs := bs) (by k_asm) (by k_asm) (by rfl) (by rfl) hn ?turn ?done)
  case turn =>
    intro b' k' tc' u' h' tk' I' oI' hk0' hk1' hn' F' N'
    cases b'
    · rw [show k' + (if false = true then (1 : Int) else 0) = k' by simp]
      k_steps
      exact CnEnd.intro (by assumption) (by assumption) (by with_unfolding_all rfl) (by with_unfolding_all rfl)
    · rw [show k' + (if true = true then (1 : Int) else 0) = k' + 1 by simp]
      k_steps
      exact CnEnd.intro (by assumption) (by assumption) (by with_unfolding_all rfl) (by with_unfolding_all rfl)
  case done =>
    intro h' tk' tc' u' F' N'
    k_steps
    exact ret _ _ _ (by assumption) (tail_back k4 hG' (by assumption) (by assumption) (fun q hq => by rw [List.mem_singleton.mp hq]; simp))


end Mine
end
theorem Mine.rs44 : True := by k_with_none; w_top off; trivial
section
open PySem PySem.W PyProof.Rows PySem.Calls PyProof.V PySem.Spec
set_option maxRecDepth 100000
set_option maxHeartbeats 8000000
namespace Mine
section
variable {prog : Program} {w : World} {A : Around} {E : Value → Shared → Prop} {R : Result → Shared → Prop} {s : Shared}
theorem compTurn_out (elt t0 i0 t1 i1 ct : PySem.Expr) (scope : Scope) (pos : Pos) (it acc : Value) (env : Env) :
    compTurn (.ListComp elt [⟨t0, i0, [], 0⟩, ⟨t1, i1, [ct], 0⟩] scope pos) 0 it acc env = (standAt i0.pos >>= fun _ => pyNext it >>= fun r => match r with
      | none => pure (.done .next)
      | some v => letOwnedTupleGo t0 it v >>= fun _ => assign t0 env v >>= fun _ =>
        (eval i1 env >>= fun x => standAt i1.pos >>= fun _ => foldedSetIterable i1 env x >>= fun x => holding [x] (pyIter x) >>= fun it2 => runOwn (.compStart (.ListComp elt [⟨t0, i0, [], 0⟩, ⟨t1, i1, [ct], 0⟩] scope pos) 1 it2 acc env) env >>= fun _ =>
          again (.compLoop (.ListComp elt [⟨t0, i0, [], 0⟩, ⟨t1, i1, [ct], 0⟩] scope pos) 0 it acc env))) := by rfl
theorem compTurn_in (elt t0 i0 t1 i1 ct : PySem.Expr) (scope : Scope) (pos : Pos) (it acc : Value) (env : Env) :
    compTurn (.ListComp elt [⟨t0, i0, [], 0⟩, ⟨t1, i1, [ct], 0⟩] scope pos) 1 it acc env = (do
      standAt i1.pos
      match ← pyNext it with
      | none => pure (.done .next)
      | some v =>
        letOwnedTupleGo t1 it v
        assign t1 env v
        let mut ok := true
        for c in [ct] do
          if ok then ok ← isTrue c env (eval c env)
        if ok then
          (do let _ ← call (.builtin "list.append") [acc, ← eval elt env])
        again (.compLoop (.ListComp elt [⟨t0, i0, [], 0⟩, ⟨t1, i1, [ct], 0⟩] scope pos) 1 it acc env)) := by rfl
theorem compLoop_out {elt t0 i0 t1 i1 ct : PySem.Expr} {scope : Scope} {pos : Pos} {it acc : Value} {env : Env} (I : Nat → Shared → Prop)
    (turn : ∀ n s, I n s → wpAny (model prog w) A (pyNext it) (fun r s₁ => match r with
      | none => R (.ok .next) s₁
      | some v => wpAny (model prog w) A (assign t0 env v) (fun _ s₂ => wpAny (model prog w) A (eval i1 env) (fun x s₃ => wpAny (model prog w) A (pyIter x) (fun it2 s₄ =>
          codeAny (model prog w) A (.compStart (.ListComp elt [⟨t0, i0, [], 0⟩, ⟨t1, i1, [ct], 0⟩] scope pos) 1 it2 acc env) (fun r s₅ => match r with
            | .ok _ => ∃ m, m < n ∧ I m s₅
            | .error e => cameBackBy (model prog w) A env (notedBy (model prog w) A env fun e s' => R (.error e) s') e s₅) s₄)
          (notedBy (model prog w) A env fun e s' => R (.error e) s') s₃) (notedBy (model prog w) A env fun e s' => R (.error e) s') s₂) (notedBy (model prog w) A env fun e s' => R (.error e) s') s₁) (notedBy (model prog w) A env fun e s' => R (.error e) s') s)
    (n : Nat) (h : I n s) (ht : ∀ v, letOwnedTupleGo t0 it v = pure () := by intro _; rfl) (hs : ∀ x, foldedSetIterable i1 env x = pure x := by intro _; rfl) :
    codeAny (model prog w) A (.compLoop (.ListComp elt [⟨t0, i0, [], 0⟩, ⟨t1, i1, [ct], 0⟩] scope pos) 0 it acc env) R s := by
  refine codeAny_loop rfl I (fun n s hI => ?_) n h
  show wpAny _ A ((compTurn (.ListComp elt [⟨t0, i0, [], 0⟩, ⟨t1, i1, [ct], 0⟩] scope pos) 0 it acc env).onRaise (fun x => do noteFrame x env; theTreesLotGoes x)) _ _ s
  refine wpAny_noted ?_
  rw [compTurn_out]
  refine wpAny_bind (wpAny_standAt (wpAny_bind (wpAny_mono (turn n s hI) (fun r s₁ h₁ => ?_) fun _ _ h' => h')))
  cases r with
  | none => exact wpAny_pure h₁
  | some v =>
    refine wpAny_bind (wpAny_of_eq (ht v) ?_)
    refine wpAny_bind (wpAny_mono h₁ (fun _ s₂ h₂ => ?_) fun _ _ h' => h')
    refine wpAny_bind (wpAny_mono h₂ (fun x s₃ h₃ => wpAny_bind (wpAny_standAt (wpAny_bind (wpAny_of_eq (hs x) (wpAny_bind (wpAny_holding (wpAny_mono h₃ (fun it2 s₄ h₄ => ?_) fun _ _ h' => h'))))))) fun _ _ h' => h')
    refine wpAny_bind (wpAny_runOwn (codeAny_mono h₄ (fun r s₅ h₅ => ?_)))
    cases r with
    | error e => exact h₅
    | ok f => exact wpAny_pure ⟨rfl, h₅⟩
theorem compStart_in {elt t0 i0 t1 i1 ct : PySem.Expr} {scope : Scope} {pos : Pos} {it acc : Value} {env : Env}
    (h0 : codeAny (model prog w) A (.compLoop (.ListComp elt [⟨t0, i0, [], 0⟩, ⟨t1, i1, [ct], 0⟩] scope pos) 1 it acc env) R s)
    (h : wpAny (model prog w) A (pyIter it) (fun it' s' => codeAny (model prog w) A (.compLoop (.ListComp elt [⟨t0, i0, [], 0⟩, ⟨t1, i1, [ct], 0⟩] scope pos) 1 it' acc env) R s') (notedBy (model prog w) A env fun x s' => R (.error x) s') s) :
    codeAny (model prog w) A (.compStart (.ListComp elt [⟨t0, i0, [], 0⟩, ⟨t1, i1, [ct], 0⟩] scope pos) 1 it acc env) R s := by
  refine codeAny_of_tree ?_
  show wpAny _ _ ((compStart (.ListComp elt [⟨t0, i0, [], 0⟩, ⟨t1, i1, [ct], 0⟩] scope pos) 1 it acc env).onRaise (fun x => do noteFrame x env; standAt theWindowsPlace)) _ _ s
  refine wpAny_notedAt ?_
  unfold compStart
  show wpAny _ _ (ask >>= _) _ _ s
  refine wpAny_bind (wpAny_askSetting (wpAny_ite ?_))
  split
  · first
      | exact wpAny_bind (wpAny_pure (wpAny_pure (And.intro rfl h0)))
      | exact wpAny_pure (And.intro rfl h0)
  · first
      | exact wpAny_bind (wpAny_rule (wpAny_bind (wpAny_standAt (wpAny_bind (wpAny_mono h (fun it' s' h' => wpAny_pure (And.intro rfl h')) fun _ _ x => x)))))
      | (refine wpAny_bind (wpAny_rule ?_); show wpAny _ _ (standAt i1.pos >>= _) _ _ s; exact wpAny_bind (wpAny_standAt (wpAny_bind (wpAny_mono h (fun it' s' h' => wpAny_pure (And.intro rfl h')) fun _ _ x => x))))
theorem compLoop_in {elt t0 i0 t1 i1 ct : PySem.Expr} {scope : Scope} {pos : Pos} {it acc : Value} {env : Env} (I : Nat → Shared → Prop)
    (turn : ∀ n s, I n s → wpAny (model prog w) A (pyNext it) (fun r s₁ => match r with
      | none => R (.ok .next) s₁
      | some v => wpAny (model prog w) A (assign t1 env v) (fun _ s₂ =>
          wpAny (model prog w) A (isTrue ct env (eval ct env)) (fun ok s₃ =>
            if ok = true then wpAny (model prog w) A (eval elt env) (fun x s₄ =>
              wpAny (model prog w) A (call (.builtin "list.append") [acc, x]) (fun _ s₅ => ∃ m, m < n ∧ I m s₅) (notedBy (model prog w) A env fun e s' => R (.error e) s') s₄) (notedBy (model prog w) A env fun e s' => R (.error e) s') s₃
            else ∃ m, m < n ∧ I m s₃) (notedBy (model prog w) A env fun e s' => R (.error e) s') s₂) (notedBy (model prog w) A env fun e s' => R (.error e) s') s₁) (notedBy (model prog w) A env fun e s' => R (.error e) s') s)
    (n : Nat) (h : I n s) (ht : ∀ v, letOwnedTupleGo t1 it v = pure () := by intro _; rfl) :
    codeAny (model prog w) A (.compLoop (.ListComp elt [⟨t0, i0, [], 0⟩, ⟨t1, i1, [ct], 0⟩] scope pos) 1 it acc env) R s := by
  refine codeAny_loop rfl I (fun n s hI => ?_) n h
  show wpAny _ A ((compTurn (.ListComp elt [⟨t0, i0, [], 0⟩, ⟨t1, i1, [ct], 0⟩] scope pos) 1 it acc env).onRaise (fun x => do noteFrame x env; theTreesLotGoes x)) _ _ s
  refine wpAny_noted ?_
  rw [compTurn_in]
  refine wpAny_bind (wpAny_standAt (wpAny_bind (wpAny_mono (turn n s hI) (fun r s₁ h₁ => ?_) fun _ _ h' => h')))
  cases r with
  | none => exact wpAny_pure h₁
  | some v =>
    refine wpAny_bind (wpAny_of_eq (ht v) ?_)
    refine wpAny_bind (wpAny_mono h₁ (fun _ s₂ h₂ => wpAny_bind (wpAny_tests_one (wpAny_mono h₂ (fun ok s₃ h₃ => ?_) fun _ _ h' => h'))) fun _ _ h' => h')
    cases ok with
    | false => exact wpAny_pure ⟨rfl, h₃⟩
    | true =>
      exact wpAny_bind (wpAny_bind (wpAny_mono h₃ (fun x s₄ h₄ => wpAny_bind (wpAny_mono h₄ (fun _ s₅ h₅ => wpAny_pure (wpAny_pure ⟨rfl, h₅⟩)) fun _ _ h' => h')) fun _ _ h' => h'))
end
end Mine
end
theorem Mine.rs45 : True := by k_with_none; w_top off; trivial
section
open PySem PySem.W PyProof.Rows PySem.Calls PyProof.V PySem.Spec
set_option maxRecDepth 100000
set_option maxHeartbeats 8000000
namespace Mine
/-- what two fors over one text, with a test, list -/
noncomputable def innB (T V : Nat → Nat → Bool) (c : Nat) (l : List Nat) : List Bool := (l.filter (T c)).map (V c)
noncomputable def verdB (T V : Nat → Nat → Bool) (l : List Nat) (k : List Nat) : List Bool := k.flatMap fun c => innB T V c l
theorem innB_snoc (T V : Nat → Nat → Bool) (c d : Nat) (l : List Nat) : innB T V c (l ++ [d]) = innB T V c l ++ (if T c d then [V c d] else []) := by
  unfold innB
  rw [List.filter_append, List.map_append]
  cases h : T c d <;> simp [h]
theorem verdB_snoc (T V : Nat → Nat → Bool) (l k : List Nat) (c : Nat) : verdB T V l (k ++ [c]) = verdB T V l k ++ innB T V c l := by
  unfold verdB
  rw [List.flatMap_append]
  simp
abbrev bls (bs : List Bool) : List Value := bs.map Value.bool
noncomputable def BlEnd (h₀ : Heap) (L : Addr) (m : Str → Option Value) (s : Shared) (led : List (Addr × Obj)) (b : Bool) (P : Prop) (v : Value) (s₂ : Shared) : Prop := P ∧ ∃ h' tk', v = .bool b ∧ s₂ = { s with heap := h', toks := tk' } ∧ Fr h₀ L h' m ∧ News h₀ L h' led
noncomputable def BlEnd0 (h₀ : Heap) (L : Addr) (m : Str → Option Value) (s : Shared) (led : List (Addr × Obj)) (P : Prop) (s₂ : Shared) : Prop := P ∧ ∃ h' tk', s₂ = { s with heap := h', toks := tk' } ∧ Fr h₀ L h' m ∧ News h₀ L h' led
structure Text2 (prog : Program) (w : World) (A : Around) (h₀ : Heap) (L : Addr) (m : Str → Option Value) (env : Env) (ct elt i1 : PySem.Expr) (a b : Str) (scope : Scope) (cl : List (Str × Addr)) (z : Str) (news : List (Addr × Obj)) (T V : Nat → Nat → Bool) (s : Shared) : Prop where
  iter : ∀ C led h tk (E' : Value → Shared → Prop), Fr h₀ L h m → News h₀ L h led → (∀ p ∈ news, p ∈ led) → wpAny (model prog w) A (eval i1 (compEnvC scope cl C env)) (fun xv s' => ∃ t, xv = .str z t ∧ s' = { s with heap := h, toks := tk }) E' { s with heap := h, toks := tk }
  turn : ∀ c d u v J oJ I oI C oC D m₂ ys h tk (E' : Value → Shared → Prop), c ∈ z.cps.toList → d ∈ z.cps.toList → LCg.NsObj oC m₂ → m₂ a = some (.str ⟨#[c]⟩ u) → m₂ b = some (.str ⟨#[d]⟩ v) → Fr h₀ L h m → News h₀ L h ((J, oJ) :: (I, oI) :: (C, oC) :: (D, LCg.lst ys) :: news) →
    wpAny (model prog w) A (isTrue ct (compEnvC scope cl C env) (eval ct (compEnvC scope cl C env))) (fun ok s' => if ok = true then
        wpAny (model prog w) A (eval elt (compEnvC scope cl C env)) (BlEnd h₀ L m s ((J, oJ) :: (I, oI) :: (C, oC) :: (D, LCg.lst ys) :: news) (V c d) (T c d = true)) E' s'
      else BlEnd0 h₀ L m s ((J, oJ) :: (I, oI) :: (C, oC) :: (D, LCg.lst ys) :: news) (T c d = false) s') E' { s with heap := h, toks := tk }
noncomputable def Text2Src (prog : Program) (w : World) (A : Around) (h₀ : Heap) (L : Addr) (m : Str → Option Value) (env : Env) (ct elt i1 : PySem.Expr) (a b : Str) (scope : Scope) (cl : List (Str × Addr)) (Fin : Shared → List Value → List (Addr × Obj) → Prop) (xv : Value) (s₁ : Shared) : Prop :=
  ∃ z t news T V, xv = .str z t ∧ Fr h₀ L s₁.heap m ∧ News h₀ L s₁.heap news ∧ z.length ≤ 1000 ∧
    ∀ s₂ : Shared, (∃ h, s₂ = { s₁ with heap := h }) → Text2 prog w A h₀ L m env ct elt i1 a b scope cl z news T V s₂ ∧ Fin s₂ (bls (verdB T V z.cps.toList z.cps.toList)) news
section
variable {prog : Program} {w : World} {A : Around} {E : Value → Shared → Prop} {s : Shared} {h₀ : Heap} {L : Addr} {m : Str → Option Value} {env : Env}
theorem Text2Src.intro {ct elt i1 : PySem.Expr} {a b : Str} {scope : Scope} {cl : List (Str × Addr)} {Fin : Shared → List Value → List (Addr × Obj) → Prop} {s₁ : Shared} {z : Str} {t : Tok} {news : List (Addr × Obj)} (T V : Nat → Nat → Bool)
    (F : Fr h₀ L s₁.heap m) (N : News h₀ L s₁.heap news) (hz : z.length ≤ 1000) (h : ∀ g, Text2 prog w A h₀ L m env ct elt i1 a b scope cl z news T V { s₁ with heap := g }) (fin : ∀ g, Fin { s₁ with heap := g } (bls (verdB T V z.cps.toList z.cps.toList)) news) :
    Text2Src prog w A h₀ L m env ct elt i1 a b scope cl Fin (.str z t) s₁ := ⟨z, t, news, T, V, rfl, F, N, hz, fun _ ⟨g, e⟩ => e ▸ ⟨h g, fin g⟩⟩
theorem lst_bls (bs : List Bool) (b : Bool) : ({ cls := .type "list", data := .seq ((bls bs).toArray.push (.bool b)) ((bls bs).length + 1) } : Obj) = LCg.lst (bls (bs ++ [b])) := by
  rw [LCg.lst_snoc]
  simp [bls]
theorem innB_len (T V : Nat → Nat → Bool) (c : Nat) (l : List Nat) : (innB T V c l).length ≤ l.length := by
  unfold innB
  rw [List.length_map]
  exact List.length_filter_le _ _
theorem verdB_len (T V : Nat → Nat → Bool) (l : List Nat) : ∀ k : List Nat, (verdB T V l k).length ≤ k.length * l.length
  | [] => by simp [verdB]
  | c :: k => by
    have h1 := verdB_len T V l k
    have h2 := innB_len T V c l
    have e : verdB T V l (c :: k) = innB T V c l ++ verdB T V l k := rfl
    rw [e, List.length_append, List.length_cons, Nat.succ_mul]
    omega
/-- the inner loop -/
theorem inner_loop {elt i0 i1 ct : PySem.Expr} {a b : Str} {pa pb : Pos} {scope : Scope} {cl : List (Str × Addr)} {pos : Pos} {R : Result → Shared → Prop} {z : Str} {news : List (Addr × Obj)} {T V : Nat → Nat → Bool} {sB : Shared}
    {J I C D : Addr} {oI : Obj} {c : Nat} {u : Tok} {pre : List Bool} {St : Nat → Heap → Prop} {H : Heap} {tk₀ : Nat} {m₀ : Str → Option Value}
    (X : Text2 prog w A h₀ L m env ct elt i1 a b scope cl z news T V sB)
    (W : Walks prog w A J [J] [J] z.cps.size (SignAt z) St) (hJo : ∀ i h, St i h → ∃ o, h.get? J = some o) (hab : a ≠ b)
    (hkind : scope.kind = .function) (hxb : scope.names.lookup b = some .local) (hpre : pre.length ≤ 1000000) (hz : z.length ≤ 1000)
    (hc : c ∈ z.cps.toList) (d1 : J ≠ L) (d2 : J ≠ I) (d3 : J ≠ C) (d4 : J ≠ D) (d5 : I ≠ C) (d6 : I ≠ D) (d7 : C ≠ D) (d8 : C ≠ L) (d9 : D ≠ L) (d10 : I ≠ L) (hn : ∀ p ∈ news, p.1 ≠ J ∧ p.1 ≠ I ∧ p.1 ≠ C ∧ p.1 ≠ D)
    (g1 : h₀.get? J = none) (g2 : h₀.get? I = none) (g3 : h₀.get? C = none) (g4 : h₀.get? D = none)
    (st : St 0 H) (F : Fr h₀ L H m) (hns : H.Ns C m₀) (ha : m₀ a = some (.str ⟨#[c]⟩ u)) (hI : H.get? I = some oI) (N : News h₀ L H ((D, LCg.lst (bls pre)) :: news))
    (done : ∀ h tk m', Fr h₀ L h m → h.Ns C m' → h.get? I = some oI → News h₀ L h ((D, LCg.lst (bls (pre ++ innB T V c z.cps.toList))) :: news) → R (.ok .next) { sB with heap := h, toks := tk }) :
    codeAny (model prog w) A (.compLoop (.ListComp elt [⟨.Name a pa, i0, [], 0⟩, ⟨.Name b pb, i1, [ct], 0⟩] scope pos) 1 (.ref J) (.ref D) (compEnvC scope cl C env)) R { sB with heap := H, toks := tk₀ } := by
  have hsz : z.cps.toList.length = z.cps.size := by simp
  refine compLoop_in (fun k s' => ∃ h' tk j m', s' = { sB with heap := h', toks := tk } ∧ j ≤ z.cps.size ∧ k = z.cps.size + 1 - j ∧ St j h' ∧ Fr h₀ L h' m ∧ h'.Ns C m' ∧ m' a = some (.str ⟨#[c]⟩ u) ∧ h'.get? I = some oI ∧
      News h₀ L h' ((D, LCg.lst (bls (pre ++ innB T V c (z.cps.toList.take j)))) :: news)) ?_ (z.cps.size + 1)
    ⟨H, tk₀, 0, m₀, rfl, Nat.zero_le _, rfl, st, F, hns, ha, hI, by simpa [innB] using N⟩
  rintro k s' ⟨h', tk, j, m', rfl, hj, rfl, st', F', hn', ha', hI', N'⟩
  have off : ∀ {x : Obj}, ∀ p ∈ (D, x) :: news, p.1 ≠ J := fun {x} p hp => by
    rcases List.mem_cons.mp hp with rfl | hp
    · exact Ne.symm d4
    · exact (hn p hp).1
  by_cases hlt : j < z.cps.size
  · refine W.item j _ _ _ hlt st' fun v h₂ tk₂ hPv st₂ hk₂ => ?_
    obtain ⟨d, v', hd, rfl⟩ := hPv
    have hd' : z.cps.toList[j]? = some d := by rw [Array.getElem?_toList]; exact hd
    refine wpAny_assign_Name (wpAny_storeName_local (lookup_relabel_local hxb) (hn'.at' fun o e => hk₂ _ o (by simpa using Ne.symm d3) e) (fun h₃ hn₃ hs₃ => ?_) (by simp [compEnvC, relabel, hkind]))
    have st₃ : St (j + 1) h₃ := W.frame _ _ _ st₂ fun b' hb o e => hs₃.extBut b' o (by rw [List.mem_singleton.mp hb]; exact d3) e
    obtain ⟨oJ, heJ⟩ := hJo _ _ st₃
    obtain ⟨oC, heC, hoC⟩ := LCg.ns_obj hn₃
    have F₃ : Fr h₀ L h₃ m := (LCg.fr_but F' hk₂ (Ne.symm d1) g1).change hs₃ d8 g3
    have N₂ := LCg.news_but N' hk₂ off
    have up₃ : ∀ p ∈ (D, LCg.lst (bls (pre ++ innB T V c (z.cps.toList.take j)))) :: news, h₃.get? p.1 = some p.2 := fun p hp => hs₃.extBut _ _ (by
      rcases List.mem_cons.mp hp with rfl | hp
      · exact Ne.symm d7
      · exact (hn p hp).2.2.1) (N₂ p hp).1
    have hI₃ : h₃.get? I = some oI := hs₃.extBut _ _ d5 (hk₂ _ _ (by simpa using Ne.symm d2) hI')
    have N₃ : News h₀ L h₃ ((J, oJ) :: (I, oI) :: (C, oC) :: (D, LCg.lst (bls (pre ++ innB T V c (z.cps.toList.take j)))) :: news) := fun p hp => by
      rcases List.mem_cons.mp hp with rfl | hp
      · exact ⟨heJ, d1, g1⟩
      rcases List.mem_cons.mp hp with rfl | hp
      · exact ⟨hI₃, d10, g2⟩
      rcases List.mem_cons.mp hp with rfl | hp
      · exact ⟨heC, d8, g3⟩
      · exact ⟨up₃ p hp, (N₂ p hp).2⟩
    have hm2 : (fun y => if y = b then some (Value.str ⟨#[d]⟩ v') else m' y) a = some (.str ⟨#[c]⟩ u) := by
      show (if a = b then _ else m' a) = _
      rw [if_neg hab]; exact ha'
    refine wpAny_mono (X.turn c d u v' J oJ I oI C oC D _ _ h₃ _ _ hc (List.mem_of_getElem? hd') hoC hm2 (by show (if b = b then _ else m' b) = _; rw [if_pos rfl]) F₃ N₃) (fun ok s₄ h₄ => ?_) fun _ _ e => e
    have hin : innB T V c (z.cps.toList.take (j + 1)) = innB T V c (z.cps.toList.take j) ++ (if T c d then [V c d] else []) := by
      rw [List.take_add_one, hd']
      exact innB_snoc T V c d _
    have back : ∀ {h₅ : Heap}, (∀ o, h₃.get? J = some o → h₅.get? J = some o) → St (j + 1) h₅ := fun k => W.frame _ _ _ st₃ fun b' hb o e => by
      rw [List.mem_singleton.mp hb] at e ⊢
      exact k o e
    cases ok with
    | true =>
      simp only [if_true] at h₄ ⊢
      refine wpAny_mono h₄ (fun y s₅ h₅ => ?_) fun _ _ e => e
      obtain ⟨hT, h₅, tk₅, rfl, rfl, F₅, N₅⟩ := h₅
      have zJ := (N₅ (J, oJ) (.head _)).1
      have zI := (N₅ (I, oI) (.tail _ (.head _))).1
      have zC := (N₅ (C, oC) (.tail _ (.tail _ (.head _)))).1
      have zD := (N₅ (D, _) (.tail _ (.tail _ (.tail _ (.head _))))).1
      have hszl : (bls (pre ++ innB T V c (z.cps.toList.take j))).toArray.size ≤ sizeLine := by
        rw [List.size_toArray]
        show (List.map Value.bool _).length ≤ _
        rw [List.length_map, List.length_append, PySem.sizeLine_eq]
        have h1 := innB_len T V c (z.cps.toList.take j)
        have h2 := List.length_take_le j z.cps.toList
        have h3 : z.cps.size = z.length := rfl
        omega
      refine append_at (hsz := hszl) zD fun h₆ hs₆ hD₆ => ?_
      refine ⟨z.cps.size + 1 - (j + 1), by omega, h₆, tk₅, j + 1, _, rfl, hlt, rfl, back fun o e => hs₆.extBut _ _ d4 (by rw [heJ] at e; cases e; exact zJ), F₅.change hs₆ d9 g4, (hoC.ns zC).sameBut hs₆ d7, hm2, hs₆.extBut _ _ d6 zI, fun p hp => ?_⟩
      rw [hin, hT, if_pos rfl, ← List.append_assoc] at hp
      rcases List.mem_cons.mp hp with rfl | hp
      · exact ⟨hD₆.trans (congrArg some (lst_bls _ _)), d9, g4⟩
      · have z5 := N₅ p (.tail _ (.tail _ (.tail _ (.tail _ hp))))
        exact ⟨hs₆.extBut _ _ (hn p hp).2.2.2 z5.1, z5.2⟩
    | false =>
      simp only [Bool.false_eq_true, if_false] at h₄ ⊢
      obtain ⟨hT, h₅, tk₅, rfl, F₅, N₅⟩ := h₄
      have zJ := (N₅ (J, oJ) (.head _)).1
      have zI := (N₅ (I, oI) (.tail _ (.head _))).1
      have zC := (N₅ (C, oC) (.tail _ (.tail _ (.head _)))).1
      refine ⟨z.cps.size + 1 - (j + 1), by omega, h₅, tk₅, j + 1, _, rfl, hlt, rfl, back fun o e => by rw [heJ] at e; cases e; exact zJ, F₅, hoC.ns zC, hm2, zI, fun p hp => ?_⟩
      rw [hin, hT, if_neg Bool.false_ne_true, List.append_nil] at hp
      exact N₅ p (.tail _ (.tail _ (.tail _ hp)))
  · have hjn : j = z.cps.size := Nat.le_antisymm hj (Nat.not_lt.mp hlt)
    subst hjn
    refine W.done _ _ _ st' fun h₂ tk₂ hk₂ => ?_
    rw [List.take_of_length_le (by omega)] at N'
    exact done h₂ tk₂ m' (LCg.fr_but F' hk₂ (Ne.symm d1) g1) (hn'.at' fun o e => hk₂ _ o (by simpa using Ne.symm d3) e) (hk₂ _ _ (by simpa using Ne.symm d2) hI') (LCg.news_but N' hk₂ off)
end
end Mine
end
theorem Mine.rs46 : True := by k_with_none; w_top off; trivial
section
open PySem PySem.W PyProof.Rows PySem.Calls PyProof.V PySem.Spec
set_option maxRecDepth 100000
set_option maxHeartbeats 8000000
namespace Mine
section
variable {prog : Program} {w : World} {A : Around} {E : Value → Shared → Prop} {s : Shared} {h₀ : Heap} {L : Addr} {m : Str → Option Value} {env : Env}
theorem compStart_self {elt t0 i0 t1 i1 ct : PySem.Expr} {scope : Scope} {pos : Pos} {acc : Value} {env : Env} {R : Result → Shared → Prop} {J : Addr} {fp wr : List Addr} {n : Nat} {P : Nat → Value → Prop} {St : Nat → Heap → Prop} (W : Walks prog w A J fp wr n P St) (hst : St 0 s.heap)
    (h : codeAny (model prog w) A (.compLoop (.ListComp elt [⟨t0, i0, [], 0⟩, ⟨t1, i1, [ct], 0⟩] scope pos) 1 (.ref J) acc env) R s) :
    codeAny (model prog w) A (.compStart (.ListComp elt [⟨t0, i0, [], 0⟩, ⟨t1, i1, [ct], 0⟩] scope pos) 1 (.ref J) acc env) R s := compStart_in h (W.self 0 _ _ _ hst h)
theorem off1_of {D : Addr} : ∀ {l : List (Addr × Obj)}, (∀ p ∈ l, p.1 ≠ D) → LCg.Off1 D l
  | [], _ => trivial
  | _ :: _, h => ⟨h _ (.head _), off1_of fun p hp => h p (.tail _ hp)⟩
theorem outer_block {elt i0 i1 ct : PySem.Expr} {a b : Str} {pa pb : Pos} {scope : Scope} {cl : List (Str × Addr)} {pos : Pos} {s₂ : Shared} {I : Addr} {St : Nat → Heap → Prop} {news : List (Addr × Obj)} {z : Str} {T V : Nat → Nat → Bool} {RR : Value → Addr → Result → Shared → Prop} {Fin : List Value → List (Addr × Obj) → Prop}
    (hh : A.handled = none) (W : Walks prog w A I [I] [I] z.cps.size (SignAt z) St) (hIo : ∀ i h, St i h → ∃ o, h.get? I = some o) (hz : z.length ≤ 1000) (hab : a ≠ b)
    (hcell : ∀ y ∈ scope.names, y.2 ≠ .cell) (hkind : scope.kind = .function) (hxa : scope.names.lookup a = some .local) (hxb : scope.names.lookup b = some .local) (hst : St 0 s₂.heap) (hfp : I < s₂.heap.objs.size)
    (F : Fr h₀ L s₂.heap m) (N : News h₀ L s₂.heap news) (hIL : L ≠ I) (hI₀ : h₀.get? I = none) (off : ∀ p ∈ news, p.1 ≠ I)
    (X : Text2 prog w A h₀ L m env ct elt i1 a b scope cl z news T V s₂) (fin : Fin (bls (verdB T V z.cps.toList z.cps.toList)) news)
    (hs1 : ∀ (e : Env) x, foldedSetIterable i1 e x = pure x)
    (hRR : ∀ D C h tk m' ys news', Fr h₀ L h m → News h₀ L h ((D, LCg.lst ys) :: news') → LCg.Off1 D news' → h.Ns C m' → h₀.get? C = none → h₀.get? D = none → C ≠ L → D ≠ L → C ≠ D → (∀ p ∈ news', p.1 ≠ C) → Fin ys news' → RR (.ref D) C (.ok .next) { s₂ with heap := h, toks := tk }) :
    wpAny (model prog w) A (newList []) (fun acc s₃ => wpAny (model prog w) A (newFunctionEnv scope env.globals cl [] env.qual none .none (some env)) (fun cenv s₄ =>
      codeAny (model prog w) A (.compStart (.ListComp elt [⟨.Name a pa, i0, [], 0⟩, ⟨.Name b pb, i1, [ct], 0⟩] scope pos) 0 (.ref I) acc { cenv with scope := relabel scope env }) (RR acc cenv.locals) s₄) E s₃) E s₂ := by
  refine wpAny_newObj_type (wpAny_newFunctionEnv hcell (by intro y hy; simp at hy) (fun h₁ hns₁ hsb₁ => ?_) hkind)
  dsimp only at hns₁ hsb₁ ⊢
  generalize hH2 : s₂.heap.push { cls := .type "list", dict := none, data := .seq ([] : List Value).toArray } = H2 at hns₁ hsb₁ ⊢
  have hC : H2.objs.size = s₂.heap.objs.size + 1 := by rw [← hH2, Heap.size_push]
  have hDC : s₂.heap.objs.size ≠ H2.objs.size := by rw [hC]; exact Nat.ne_of_lt (Nat.lt_succ_self _)
  have below : ∀ b, b < s₂.heap.objs.size → b ≠ H2.objs.size ∧ b ≠ s₂.heap.objs.size := fun b hb => ⟨by rw [hC]; exact Nat.ne_of_lt (Nat.lt_succ_of_lt hb), Nat.ne_of_lt hb⟩
  have old : ∀ b o, s₂.heap.get? b = some o → h₁.get? b = some o := fun b o e => hsb₁.extBut b o (below b (Heap.lt_size e)).1 (Heap.get?_push_of_some _ (hH2 ▸ Heap.get?_push_of_some _ e))
  have hacc : h₁.get? s₂.heap.objs.size = some (LCg.lst (bls [])) := hsb₁.extBut _ _ hDC (Heap.get?_push_of_some _ (hH2 ▸ Heap.get?_push_size _ rfl))
  have hst₁ : St 0 h₁ := W.frame _ _ _ hst fun b _ o e => old b o e
  have fresh₀ : ∀ a, s₂.heap.objs.size ≤ a → h₀.get? a = none := fun a ha => by
    cases e : h₀.get? a with
    | none => rfl
    | some o' => exact absurd (Heap.lt_size (F.keep a o' e)) (Nat.not_lt.mpr ha)
  have hD₀ : h₀.get? s₂.heap.objs.size = none := fresh₀ _ (Nat.le_refl _)
  have hC₀ : h₀.get? H2.objs.size = none := fresh₀ _ (by rw [hC]; exact Nat.le_succ _)
  have hLlt : L < s₂.heap.objs.size := F.ns.lt
  have hDL : s₂.heap.objs.size ≠ L := Ne.symm (below L hLlt).2
  have hCL : H2.objs.size ≠ L := Ne.symm (below L hLlt).1
  have hCI : I ≠ H2.objs.size := (below I hfp).1
  have hDI : I ≠ s₂.heap.objs.size := (below I hfp).2
  have offC : ∀ p ∈ news, p.1 ≠ H2.objs.size := fun p hp => (below _ (Heap.lt_size (N p hp).1)).1
  have offD : ∀ p ∈ news, p.1 ≠ s₂.heap.objs.size := fun p hp => (below _ (Heap.lt_size (N p hp).1)).2
  generalize s₂.heap.objs.size = D at *
  generalize H2.objs.size = C at *
  have hsz : z.cps.toList.length = z.cps.size := by simp
  have hzl : z.cps.size = z.length := rfl
  have loop : ∀ s₃ : Shared, s₃ = { s₂ with heap := h₁, toks := s₂.toks + ([] : List (Str × Value)).length } →
      codeAny (model prog w) A (.compLoop (.ListComp elt [⟨.Name a pa, i0, [], 0⟩, ⟨.Name b pb, i1, [ct], 0⟩] scope pos) 0 (.ref I) (.ref D) (compEnvC scope cl C env)) (RR (.ref D) C) s₃ := by
    rintro s₃ rfl
    refine compLoop_out
      (fun k s' => ∃ h' tk i m', s' = { s₂ with heap := h', toks := tk } ∧ i ≤ z.cps.size ∧ k = z.cps.size + 1 - i ∧ St i h' ∧ Fr h₀ L h' m ∧ h'.Ns C m' ∧ News h₀ L h' ((D, LCg.lst (bls (verdB T V z.cps.toList (z.cps.toList.take i)))) :: news)) ?_ (z.cps.size + 1)
      ⟨h₁, _, 0, _, rfl, Nat.zero_le _, rfl, hst₁, F.keeps old, hns₁, fun p hp => ?_⟩ (hs := hs1 _)
    · rintro k s' ⟨h', tk, i, m', rfl, hi, rfl, hst', F', hn', N'⟩
      have offI : ∀ {x : Obj}, ∀ p ∈ (D, x) :: news, p.1 ≠ I := fun {x} p hp => by
        rcases List.mem_cons.mp hp with rfl | hp
        · exact Ne.symm hDI
        · exact off p hp
      by_cases hlt : i < z.cps.size
      · refine W.item i _ _ _ hlt hst' fun v h₂ tk₂ hPv hst₂ hk₂ => ?_
        obtain ⟨c, u, hc, rfl⟩ := hPv
        have hc' : z.cps.toList[i]? = some c := by rw [Array.getElem?_toList]; exact hc
        refine wpAny_assign_Name (wpAny_storeName_local (lookup_relabel_local hxa) (hn'.at' fun o e => hk₂ _ o (by simpa using Ne.symm hCI) e) (fun h₃ hn₃ hs₃ => ?_) (by simp [compEnvC, relabel, hkind]))
        have st₃ : St (i + 1) h₃ := W.frame _ _ _ hst₂ fun b' hb o e => hs₃.extBut b' o (by rw [List.mem_singleton.mp hb]; exact hCI) e
        obtain ⟨oI, heI⟩ := hIo _ _ st₃
        have F₃ : Fr h₀ L h₃ m := (LCg.fr_but F' hk₂ hIL hI₀).change hs₃ hCL hC₀
        have N₂ := LCg.news_but N' hk₂ offI
        have N₃ : News h₀ L h₃ ((D, LCg.lst (bls (verdB T V z.cps.toList (z.cps.toList.take i)))) :: news) := fun p hp => by
          refine ⟨hs₃.extBut _ _ ?_ (N₂ p hp).1, (N₂ p hp).2⟩
          rcases List.mem_cons.mp hp with rfl | hp
          · exact hDC
          · exact offC p hp
        refine wpAny_mono (X.iter C _ h₃ _ _ F₃ N₃ (fun p hp => .tail _ hp)) (fun xv s₄ h₄ => ?_) fun _ _ e => e
        obtain ⟨t, rfl, rfl⟩ := h₄
        refine iter_text fun o St2 W2 hst2 hJo => ?_
        have up : ∀ b o', h₃.get? b = some o' → (h₃.push o).get? b = some o' := fun b o' e => Heap.get?_push_of_some _ e
        have F₄ : Fr h₀ L (h₃.push o) m := F₃.keeps up
        have N₄ := N₃.grown up
        have hI₄ := up I oI heI
        have hn₄ := hn₃.keeps up
        have hJ₀ : h₀.get? h₃.objs.size = none := next_is_new F₃
        have nJ : ∀ b o', h₃.get? b = some o' → h₃.objs.size ≠ b := fun b o' e => Nat.ne_of_gt (Heap.lt_size e)
        have hJL : h₃.objs.size ≠ L := Nat.ne_of_gt F₃.ns.lt
        have hJI : h₃.objs.size ≠ I := nJ I oI heI
        have hJC : h₃.objs.size ≠ C := Nat.ne_of_gt hn₃.lt
        have hJD : h₃.objs.size ≠ D := nJ D _ (N₃ (D, _) (.head _)).1
        have hJn : ∀ p ∈ news, p.1 ≠ h₃.objs.size := fun p hp => Ne.symm (nJ _ _ (N₃ p (.tail _ hp)).1)
        have hlenv : (verdB T V z.cps.toList (z.cps.toList.take i)).length ≤ 1000000 := by
          have h1 := verdB_len T V z.cps.toList (z.cps.toList.take i)
          have h2 := List.length_take_le i z.cps.toList
          have h3 : (z.cps.toList.take i).length * z.cps.toList.length ≤ 1000 * 1000 := Nat.mul_le_mul (by omega) (by omega)
          omega
        show codeAny (model prog w) A _ _ { s₂ with heap := h₃.push o, toks := _ }
        generalize h₃.objs.size = J at *
        refine compStart_self (W2 A hh) hst2 ?_
        refine inner_loop (oI := oI) (u := u) X (W2 A hh) hJo hab hkind hxb hlenv hz (List.mem_of_getElem? hc') hJL hJI hJC hJD hCI hDI (Ne.symm hDC) hCL hDL (Ne.symm hIL) (fun p hp => ⟨hJn p hp, off p hp, offC p hp, offD p hp⟩) hJ₀ hI₀ hC₀ hD₀
            hst2 F₄ hn₄ (by show (if a = a then _ else m' a) = _; rw [if_pos rfl]) hI₄ N₄ (fun h₅ tk₅ m₅ F₅ hn₅ hI₅ N₅ => ?_)
        refine ⟨z.cps.size + 1 - (i + 1), by omega, h₅, tk₅, i + 1, m₅, rfl, hlt, rfl, W.frame _ _ _ st₃ fun b' hb o e => ?_, F₅, hn₅, ?_⟩
        · rw [List.mem_singleton.mp hb] at e ⊢
          rw [heI] at e
          cases e
          exact hI₅
        · rw [List.take_add_one, hc']
          show News h₀ L h₅ ((D, LCg.lst (bls (verdB T V z.cps.toList (z.cps.toList.take i ++ [c])))) :: news)
          rw [verdB_snoc]
          exact N₅
      · have hin : i = z.cps.size := Nat.le_antisymm hi (Nat.not_lt.mp hlt)
        subst hin
        refine W.done _ _ _ hst' fun h₂ tk₂ hk₂ => ?_
        rw [List.take_of_length_le (by omega)] at N'
        exact hRR _ _ h₂ tk₂ _ _ news (LCg.fr_but F' hk₂ hIL hI₀) (LCg.news_but N' hk₂ offI) (off1_of offD) (hn'.at' fun o e => hk₂ _ o (by simpa using Ne.symm hCI) e) hC₀ hD₀ hCL hDL (Ne.symm hDC) offC fin
    · rcases List.mem_cons.mp hp with rfl | hp
      · exact ⟨hacc, hDL, hD₀⟩
      · exact ⟨old _ _ (N p hp).1, (N p hp).2⟩
  exact codeAny_compStart_list (loop _ rfl) (W.self 0 _ _ _ hst₁ (loop _ rfl))
/-- y = [elt for a in a text for b in the same text if ct] -/
theorem Assign_ListComp_SS {elt i0 i1 ct : PySem.Expr} {a b y : Str} {pa pb py : Pos} {scope : Scope} {cl : List (Str × Addr)} {pos spos : Pos} {Q : Flow → Shared → Prop} {m : Str → Option Value} (_F₀ : Fr h₀ L s.heap m) (hLe : env.locals = L) (hh : A.handled = none)
    (hsw : swapsWith (.ListComp elt [⟨.Name a pa, i0, [], 0⟩, ⟨.Name b pb, i1, [ct], 0⟩] scope pos) (some (.Name y py)) spos.line env = pure true)
    (hclos : closureFor scope env = pure cl) (hcell : ∀ z ∈ scope.names, z.2 ≠ .cell) (hkind : scope.kind = .function)
    (hnames : ∀ z ∈ scope.names, z.2 = .local → scope.names.lookup z.1 = some .local) (hxa : scope.names.lookup a = some .local) (hxb : scope.names.lookup b = some .local) (hab : a ≠ b)
    (hy : env.kindOf y = some .local) (hp : (env.scope.kind == .class || (env.scope.kind == .module && env.locals != env.globals)) = false)
    (h : wpAny (model prog w) A (eval i0 env) (Text2Src prog w A h₀ L m env ct elt i1 a b scope cl (fun s₂ => LCg.FinA h₀ L m s₂ y Q)) E s)
    (hs : ∀ x, foldedSetIterable i0 env x = pure x := by intro _; rfl) (hs1 : ∀ (e : Env) x, foldedSetIterable i1 e x = pure x := by intro _ _; rfl) :
    wpAny (model prog w) A (exec (.Assign [.Name y py] (.ListComp elt [⟨.Name a pa, i0, [], 0⟩, ⟨.Name b pb, i1, [ct], 0⟩] scope pos) spos) env) Q E s := by
  subst hLe
  rw [exec_Assign_Name_used _ _ _ _ hsw]
  refine wpAny_bind (wpAny_standAt (wpAny_bind ?_))
  show wpAny _ A (do let _ ← comprehension (.ListComp elt [⟨.Name a pa, i0, [], 0⟩, ⟨.Name b pb, i1, [ct], 0⟩] scope pos) scope env _ (newList []) false (eval i0 env) (some (assign (.Name y py) env))) _ _ s
  refine wpAny_bind (wpAny_mono (wpAny_comprehension_free (use := some (assign (.Name y py) env)) (Q := fun _ s' => Q .next s') rfl hs hclos hkind hnames
    (wpAny_mono h (fun xv s₁ h₁ => ?_) fun _ _ e => e)) (fun _ s' hq => wpAny_pure (wpAny_pure hq)) fun _ _ e => e)
  obtain ⟨z, t, news, T, V, rfl, F, N, hsz, R⟩ := h₁
  refine iter_text fun o St W hst hIo => ?_
  obtain ⟨X, fin⟩ := R { s₁ with heap := s₁.heap.push o } ⟨_, rfl⟩
  refine outer_block hh (W A hh) hIo hsz hab hcell hkind hxa hxb hst (by show s₁.heap.objs.size < (s₁.heap.push _).objs.size; rw [Heap.size_push]; exact Nat.lt_succ_self _)
    (F.keeps fun _ _ e => Heap.get?_push_of_some _ e) (N.grown fun _ _ e => Heap.get?_push_of_some _ e) (Nat.ne_of_lt F.ns.lt) (next_is_new F) (fun p hp => Nat.ne_of_lt (Heap.lt_size (N p hp).1)) X fin hs1 ?_
  intro D C h' tk m' ys news' F' N' o1 hn hC₀ hD₀ hCL hDL hCD offC fin
  show wpAny _ A (assign (.Name y py) env (.ref D)) _ _ _
  refine wpAny_assign_Name (wpAny_storeName_local hy F'.ns (fun h₂ hn₂ hs₂ => ?_) hp)
  have hL₀ : h₀.get? env.locals = none := Heap.get?_none_of_le F'.above
  have F₂ : Fr h₀ env.locals h₂ (fun z => if z = y then some (.ref D) else m z) := F'.set hn₂ hs₂
  refine ⟨m', hn.sameBut hs₂ hCL, fun h'' hs'' => fin D h'' _ (F₂.change hs'' hCL hC₀) (fun p hp => ?_) o1⟩
  have zz : h₂.get? p.1 = some p.2 := hs₂.extBut _ _ (N' p hp).2.1 (N' p hp).1
  refine ⟨hs''.extBut _ _ ?_ zz, (N' p hp).2⟩
  rcases List.mem_cons.mp hp with rfl | hp
  · exact Ne.symm hCD
  · exact offC p hp
end
end Mine
end
theorem Mine.rs47 : True := by k_with_none; w_top off; trivial
section
open PySem PySem.W PyProof.Rows PySem.Calls PyProof.V PySem.Spec
set_option maxRecDepth 100000
set_option maxHeartbeats 8000000
namespace Mine
/-- a turn's end: the generators may have changed -/
noncomputable def RgEnd (g : Heap) (L : Addr) (s : Shared) (I : Addr) (oI : Obj) (J : (Str → Option Value) → List (Addr × Obj) → Prop) (Q : Flow → Shared → Prop) (f : Flow) (s₂ : Shared) : Prop :=
  match f with
  | .ret v => Q (.ret v) s₂
  | .brk => Q .next s₂
  | _ => ∃ h' tk G m' nw, s₂ = { s with heap := h', toks := tk, gens := G } ∧ (∀ y ∈ G, y.bare = true) ∧ Fr g L h' m' ∧ News g L h' ((I, oI) :: nw) ∧ (∀ p ∈ nw, p.1 ≠ I) ∧ J m' nw
noncomputable def RgSrc (prog : Program) (w : World) (A : Around) (g : Heap) (env : Env) (x : Str) (body : List Stmt) (Q : Flow → Shared → Prop) (E : Value → Shared → Prop) (xv : Value) (s : Shared) : Prop :=
  ∃ (r : Addr) (t u v : Tok) (n : Nat) (news : List (Addr × Obj)) (m : Str → Option Value) (J : Nat → (Str → Option Value) → List (Addr × Obj) → Prop),
    xv = .ref r ∧ IsRange s.heap r 0 n 1 t u v ∧ n ≤ 1000 ∧ (∀ y ∈ s.gens, y.bare = true) ∧ Fr g env.locals s.heap m ∧ News g env.locals s.heap news ∧ J 0 m news ∧
    (∀ i t m' nw h tk G I oI, i < n → J i m' nw → (∀ y ∈ G, y.bare = true) → (∀ p ∈ nw, p.1 ≠ I) → Fr g env.locals h (fun z => if z = x then some (.int (i : Nat) t) else m' z) → News g env.locals h ((I, oI) :: nw) →
      wpAny (model prog w) A (execs body env) (RgEnd g env.locals { s with heap := h, toks := tk, gens := G } I oI (J (i + 1)) Q) E { s with heap := h, toks := tk, gens := G }) ∧
    ∀ h tk G m' nw, (∀ y ∈ G, y.bare = true) → Fr g env.locals h m' → News g env.locals h nw → J n m' nw → Q .next { s with heap := h, toks := tk, gens := G }
section
variable {prog : Program} {w : World} {A : Around} {E : Value → Shared → Prop} {s : Shared} {env : Env} {g : Heap} {Q : Flow → Shared → Prop}
/-- a for over a range from nought, by what holds of the frame and of the ledger -/
theorem For_rg {x : Str} {px pos : Pos} {iter : PySem.Expr} {body : List Stmt} {m₀ : Str → Option Value} (_F₀ : Fr g env.locals s.heap m₀) (hh : A.handled = none)
    (hx : env.kindOf x = some .local) (hp : (env.scope.kind == .class || (env.scope.kind == .module && env.locals != env.globals)) = false)
    (h : wpAny (model prog w) A (eval iter env) (RgSrc prog w A g env x body Q E) E s)
    (hs : ∀ x, foldedSetIterable iter env x = pure x := by intro _; rfl)
    (hE : PassesOwn (model prog w) A env E := by passes_own) :
    wpAny (model prog w) A (exec (.For (.Name x px) iter body [] pos) env) Q E s := by
  refine wpAny_For (wpAny_mono h (fun xv s₁ h₁ => ?_) fun _ _ e => e) hs
  obtain ⟨r, t, u, v, n, news, m, J, rfl, hr, hn, hG, F, N, h0, turn, done⟩ := h₁
  have hrs : Builtin.Range.rangeSize 0 (n : Int) 1 = ((n : Nat) : Int) := by
    unfold Builtin.Range.rangeSize
    simp
    try omega
  refine wpAny_pyIter_range hr ?_ ?_
  · have hfit : ∀ k : Int, 0 ≤ k → k ≤ 1000 → Builtin.Range.rangeFitsLong k = true := by
      intro k h0 h1
      unfold Builtin.Range.rangeFitsLong
      simp
      omega
    unfold Builtin.Range.small
    rw [hrs]
    simp [hfit 0 (by decide) (by decide), hfit 1 (by decide) (by decide), hfit n (by omega) (by omega)]
  rw [hrs]
  have W := LCg.range_walks (prog := prog) (w := w) (A := A) (I := s₁.heap.objs.size) hh 0 n
  have hgI : g.get? s₁.heap.objs.size = none := next_is_new F
  have hLI : env.locals ≠ s₁.heap.objs.size := Nat.ne_of_lt F.ns.lt
  generalize hI : s₁.heap.objs.size = I at W hgI hLI
  refine codeAny_forLoop_any
    (fun k s' => ∃ h' tk G i m' nw, s' = { s₁ with heap := h', toks := tk, gens := G } ∧ (∀ y ∈ G, y.bare = true) ∧ i ≤ n ∧ k = n + 1 - i ∧ IsRangeIter h' I (0 + (i : Nat) * 1) ((n : Int) - (i : Nat)) 1 ∧ Fr g env.locals h' m' ∧ News g env.locals h' nw ∧ (∀ p ∈ nw, p.1 ≠ I) ∧ J i m' nw) ?_ (n + 1)
    ⟨_, s₁.toks, s₁.gens, 0, m, news, rfl, hG, Nat.zero_le _, rfl, by show IsRangeIter _ _ _ _ _; rw [← hI]; simpa using Heap.get?_push_size _ rfl, F.push _, N.grown fun _ _ e => Heap.get?_push_of_some _ e, fun p hp => by rw [← hI]; exact Nat.ne_of_lt (Heap.lt_size (N p hp).1), h0⟩
  rintro k s' ⟨h', tk, G, i, m', nw, rfl, hG', hi, rfl, hit, F', N', hnI, hJ⟩
  have frN : ∀ {h'' : Heap}, (∀ b o, b ∉ [I] → h'.get? b = some o → h''.get? b = some o) → Fr g env.locals h'' m' ∧ News g env.locals h'' nw := fun hk =>
    ⟨⟨F'.ns.at' fun o e => hk _ o (by simpa using hLI) e, fun b o e => hk b o (fun q => by rw [List.mem_singleton.mp q, hgI] at e; cases e) (F'.keep b o e), F'.above⟩, fun p hp' => ⟨hk _ _ (by simpa using hnI p hp') (N' p hp').1, (N' p hp').2⟩⟩
  by_cases hlt' : i < n
  · refine W.item i _ _ _ hlt' hit fun v h₂ tk₂ hPv hst₂ hk₂ => ?_
    obtain ⟨ti, rfl⟩ := hPv
    dsimp only
    refine wpAny_of_eq (a := ()) rfl ?_
    obtain ⟨F₂, N₂⟩ := frN hk₂
    refine wpAny_assign_Name (wpAny_storeName_local hx F₂.ns (fun h₃ hn₃ hs₃ => ?_) hp)
    obtain ⟨oI, hi₂, hoI⟩ : ∃ oI, h₂.get? I = some oI ∧ ∀ h : Heap, h.get? I = some oI → IsRangeIter h I (0 + ((i + 1 : Nat) : Int) * 1) ((n : Int) - ((i + 1 : Nat) : Int)) 1 := ⟨_, hst₂, fun _ e => e⟩
    have hI₃ := hs₃.extBut I _ (Ne.symm hLI) hi₂
    have N₃ : News g env.locals h₃ ((I, oI) :: nw) := by
      intro p hp'
      rcases List.mem_cons.mp hp' with rfl | hp'
      · exact ⟨hI₃, Ne.symm hLI, hgI⟩
      · exact N₂.set hs₃ p hp'
    have F₃ := F₂.set hn₃ hs₃
    rw [Int.zero_add] at F₃
    refine wpAny_mono (wpAny_mono (turn i ti m' nw h₃ _ G I _ hlt' hJ hG' hnI F₃ N₃) (fun f s₄ h₄ => ?_) fun _ _ e => e) (fun _ _ e => e) hE
    cases f with
    | ret v => exact h₄
    | brk => exact h₄
    | next =>
      obtain ⟨h₄, tk₄, G₄, m₄, nw₄, rfl, hG₄, F₄, N₄, hnI₄, hJ₄⟩ := h₄
      exact ⟨n + 1 - (i + 1), by omega, h₄, tk₄, G₄, i + 1, m₄, nw₄, rfl, hG₄, hlt', rfl, hoI _ (N₄ (I, _) (.head _)).1, F₄, fun p hp' => N₄ p (.tail _ hp'), hnI₄, hJ₄⟩
    | cont =>
      obtain ⟨h₄, tk₄, G₄, m₄, nw₄, rfl, hG₄, F₄, N₄, hnI₄, hJ₄⟩ := h₄
      exact ⟨n + 1 - (i + 1), by omega, h₄, tk₄, G₄, i + 1, m₄, nw₄, rfl, hG₄, hlt', rfl, hoI _ (N₄ (I, _) (.head _)).1, F₄, fun p hp' => N₄ p (.tail _ hp'), hnI₄, hJ₄⟩
  · have hin : i = n := by omega
    subst hin
    refine W.done _ _ _ hit fun h₂ tk₂ hk₂ => ?_
    obtain ⟨F₂, N₂⟩ := frN hk₂
    refine wpAny_execs_nil ?_
    exact done h₂ tk₂ G m' nw hG' F₂ N₂ hJ
end
end Mine
end
theorem Mine.rs48 : True := by k_with_none; w_top off; trivial
section
open PySem PySem.W PyProof.Rows PySem.Calls PyProof.V PySem.Spec
set_option maxRecDepth 100000
set_option maxHeartbeats 8000000
namespace Mine
theorem fillCtD : (fun (_ : OpenLaw) (_ : Params → Frag) => True) PySem.Challenge.rw_wo0061_01 KK := by
  k_fill
  trivial

theorem unw_tailD {h₀ h : Heap} {L : Addr} {p : Addr × Obj} {news led : List (Addr × Obj)} (N : News h₀ L h (p :: led)) (B : News h₀ L h news) : News h₀ L h (p :: news) := fun q hq => (List.mem_cons.mp hq).elim (fun e => e ▸ N p (.head _)) (B q)
theorem ints_one {us : List Value} {l : List Int} {n : Nat} (h : IntsAre us l) (hl : l.length = n + 1) : ∃ d t us' l', us = .int d t :: us' ∧ l = d :: l' ∧ IntsAre us' l' ∧ l'.length = n := by
  cases h with
  | nil => cases hl
  | cons i t r => exact ⟨i, t, _, _, rfl, rfl, r, by simpa using hl⟩
theorem ints_six {us : List Value} {l : List Int} (h : IntsAre us l) (hl : l.length = 6) : ∃ d0 d1 d2 d3 d4 d5 t0 t1 t2 t3 t4 t5, us = [.int d0 t0, .int d1 t1, .int d2 t2, .int d3 t3, .int d4 t4, .int d5 t5] := by
  obtain ⟨d0, t0, u0, l0, rfl, rfl, h0, e0⟩ := ints_one h hl
  obtain ⟨d1, t1, u1, l1, rfl, rfl, h1, e1⟩ := ints_one h0 e0
  obtain ⟨d2, t2, u2, l2, rfl, rfl, h2, e2⟩ := ints_one h1 e1
  obtain ⟨d3, t3, u3, l3, rfl, rfl, h3, e3⟩ := ints_one h2 e2
  obtain ⟨d4, t4, u4, l4, rfl, rfl, h4, e4⟩ := ints_one h3 e3
  obtain ⟨d5, t5, u5, l5, rfl, rfl, h5, e5⟩ := ints_one h4 e4
  cases h5 with
  | nil => exact ⟨d0, d1, d2, d3, d4, d5, t0, t1, t2, t3, t4, t5, rfl⟩
  | cons => cases e5
theorem six_len (f : Int → Int) (ns : List Int) : ((ns.take 6).map f ++ ([7396, 4, 488, 0, 1961, 3592] : List Int).drop (((ns.take 6).map f).length : Int).toNat).length = 6 := by
  rw [List.length_append, List.length_drop, List.length_map, List.length_take]
  show min 6 ns.length + (6 - min 6 ns.length) = 6
  omega

theorem drawn_ct {w : World} {mean : ExcName → Option Value} {mg mb : Str → Option Value} {ls : List Str} {news : List (Addr × Obj)} {dp un : Nat} {gd : Option (List Code)} {cn : Str} {cs : Scope} {a : Addr} {ccd : Value} {cl : List (Str × Addr)} {outer : List Env} {A₀ : Around} {base h₀ : Heap} {L : Addr} {m : Str → Option Value} {s : Shared} {Q E : Value → Shared → Prop} {l : Addr} {us : List Value} {ns : List Int}
    (k1 : Below A₀ base outer h₀) (k2 : Fr h₀ L s.heap m) (k3 : (KK w.params).In h₀) (k4 : News h₀ L s.heap news) (k5 : Top vw ls mean mg mb h₀) (kK : cs.kind = .function) (kd : dp + 4 < recursionLimit) (ku : un + 40 < cLine)
    (hl : h₀.IsList l us.toArray) (hi : IntsAre us ns) (hn : ns.length ≤ 63)
    (ret : ∀ (ad : Addr) (d0 d1 d2 d3 d4 d5 : Int) (t0 t1 t2 t3 t4 t5 : Tok) (h' : Heap) (tk' : Nat), Fr h₀ L h' m → News h₀ L h' ((ad, W.listOf #[.int d0 t0, .int d1 t1, .int d2 t2, .int d3 t3, .int d4 t4, .int d5 t5] 0) :: news) → Q (.ref ad) { s with heap := h', toks := tk' }) :
    wpAny (model P w) (ktrTop dp un gd cn cs L a ccd cl outer) (call (.ref 125) [.ref l]) Q E s := by
  refine wpAny_call ?_
  k_dflt (refine' code_own [] ?kO ?k1 ?k2 ?k3 ?k4 ?k5 ?kA ?kF ?kK ?k6 ?k7 ?k8 ?k9 ?kB ?_ ?c2 ?c3 ?c4 ?c5; (case kO => intro q hq; cases hq); (case kA => exact rfl); (case kF => exact rfl); (case kK => assumption); (case k1 => k_asm); (case k2 => k_asm); (case k3 => k_asm); (case k4 => k_asm); (case k5 => k_asm); (case k6 => k_is); (case k7 => k_is); (case k8 => ktr_room); (case k9 => exact BindsTo.of_eq rfl); (case c5 => decide); (case kB => exact locs rfl); (case c2 => exact rfl); (case c3 => exact rfl); (case c4 => exact rfl); k_whole; intro g' L' h' hG' FG' F' N' B' X' T'; (try dsimp only); (try k_lift B'); (try k_fold))
  have hl' : g'.IsList l us.toArray := hl.at fun o e => FG'.keep _ _ e
  generalize s.toks + List.length _ = tk9
  k_steps
  (rename IntsAre _ (_ ++ _) => hI6)
  obtain ⟨d0, d1, d2, d3, d4, d5, t0, t1, t2, t3, t4, t5, rfl⟩ := ints_six hI6 (six_len _ _)
  exact ret _ _ _ _ _ _ _ _ _ _ _ _ _ _ _ (by assumption) (unw_tailD (by assumption) (tail_back k4 hG' (by assumption) (by assumption) (fun q hq => nomatch hq)))


end Mine
end
theorem Mine.rs49 : True := by k_with_none; w_top off; trivial
section
open PySem PySem.W PyProof.Rows PySem.Calls PyProof.V PySem.Spec
set_option maxRecDepth 100000
set_option maxHeartbeats 8000000
namespace Mine
noncomputable def bodyAt (b : List Stmt) (i : Nat) : List Stmt := match b[i]? with
  | some (.For _ _ b _ _) => b
  | _ => []
/-- the row woven of the first i letters -/
noncomputable def wovS (x : Str) : Nat → Str
  | 0 => Str.ofString ""
  | i + 1 => weaveS (wovS x i) (Txt.item x (i : Int))
/-- the falls' places, up to the i-th letter -/
noncomputable def fallI (o : List Int) : Nat → Int
  | 0 => 0
  | i + 1 => if 0 < i ∧ o.getD i 0 < o.getD (i - 1) 0 then fallI o i + i else fallI o i
noncomputable def unwS (y : Str) : Nat → Str
  | 0 => y
  | i + 1 => unweaveS (unwS y i)
noncomputable def backS (y : Str) : Nat → Str
  | 0 => Str.ofString ""
  | i + 1 => Txt.item (unwS y i) (-1) ++ backS y i
noncomputable def gtB (c d : Nat) : Bool := decide (0 < cmpS ⟨#[c]⟩ ⟨#[d]⟩)
noncomputable def codeAt (letters : Str) (v : Int) : Nat := (Txt.charAt letters v).getD 0
/-- what the walk of the law asks of the woven rows -/
structure LF (letters : Str) (o : List Int) (x : Str) : Prop where
  hlet : letters.length = 6
  ho : o.length = 6
  hor : ∀ n ∈ o, 0 ≤ n ∧ n < 6
  hx : x.length = 6
  wlen : ∀ i, i ≤ 6 → (wovS x i).length = i
  wgood : ∀ i, i ≤ 6 → ∀ c ∈ (wovS x i).cps.toList, c ∈ goodL
  wfall : ∀ i, i < 6 → cntB (verdB gtB (fun c d => ellB c d (wovS x (i + 1))) (wovS x (i + 1)).cps.toList (wovS x (i + 1)).cps.toList) = fallI o (i + 1)
  near : ∀ i, i < 6 → ∀ v : Int, 0 ≤ v → v < 5 → v ∈ o.take (i + 1) → v + 1 ∈ o.take (i + 1) →
    codeAt letters v ∈ (wovS x (i + 1)).cps.toList ∧ codeAt letters (v + 1) ∈ (wovS x (i + 1)).cps.toList ∧
    decide ((((wovS x (i + 1)).cps.toList.idxOf (codeAt letters (v + 1)) : Nat) : Int) < ((wovS x (i + 1)).cps.toList.idxOf (codeAt letters v) : Nat)) = decide ((((o.take (i + 1)).idxOf (v + 1) : Nat) : Int) < ((o.take (i + 1)).idxOf v : Nat))
  ulen : ∀ i, i < 6 → (unwS (wovS x 6) i).length = 6 - i
  back : backS (wovS x 6) 6 = x
theorem news_ne {g h : Heap} {L a c : Addr} {o1 o2 : Obj} {news : List (Addr × Obj)} (N : News g L h news) (h1 : (a, o1) ∈ news) (h2 : (c, o2) ∈ news) (hn : o1.data ≠ o2.data) : @Ne Nat a c := fun e => by
  have e1 := (N _ h1).1
  have e2 := (N _ h2).1
  dsimp only at e1 e2
  rw [show a = c from e, e2] at e1
  exact hn (congrArg Obj.data (Option.some.inj e1)).symm
abbrev nK := Str.ofString "k"
abbrev nOrder := Str.ofString "order"
abbrev nWord := Str.ofString "word"
abbrev nFalls := Str.ofString "falls"
abbrev lawE (sc : Scope) (L fa : Addr) (cd : Value) : Env := envOfC (Str.ofString "law") sc L fa cd
abbrev lawA (sc : Scope) (L fa : Addr) (cd : Value) : Around := callerA.deeper (lawE sc L fa cd)
noncomputable def J1 (L ad : Addr) (nO : Nat) (us : List Value) (oL : Obj) (o : List Int) (x : Str) (tx : Tok) (i : Nat) (m' : Str → Option Value) (nw : List (Addr × Obj)) : Prop :=
  ∃ oW tW tf, nw = [(ad, W.listOf us.toArray nO), (L + 1, oL), (L + 2, oW)] ∧ oW.data = .cell (some (.str (wovS x i) tW)) ∧ m' nOrder = some (.ref ad) ∧ m' nWord = some (.str x tx) ∧ m' nFalls = some (.int (fallI o i) tf)
end Mine
end
theorem Mine.rs50 : True := by k_with_none; w_top off; trivial
section
open PySem PySem.W PyProof.Rows PySem.Calls PyProof.V PySem.Spec
set_option maxRecDepth 100000
set_option maxHeartbeats 8000000
namespace Mine
theorem NoneBooked.of {w : World} {h : Heap} (X : (KK w.params).In h) : NoneBooked h :=
  ⟨fun name => nsFind #[] name, ⟨_, #[], 0, X 2 ⟨.none, none, .dict (List.toArray []) 0, #[]⟩ (by kernel_rfl), rfl, (fun e he => by simp at he), fun _ => rfl⟩, rfl⟩
theorem toNat_pred (i : Nat) : ((i : Int) - 1).toNat = i - 1 := by omega
theorem fall_yes {o : List Int} {i : Nat} (h1 : (0 : Int) < i) (h2 : o.getD (i : Int).toNat 0 < o.getD ((i : Int) - 1).toNat 0) : fallI o (i + 1) = fallI o i + i := by
  rw [toNat_pred, Int.toNat_natCast] at h2
  show (if _ then _ else _) = _
  rw [if_pos ⟨by omega, h2⟩]
theorem fall_no1 {o : List Int} {i : Nat} (h1 : ¬ (0 : Int) < i) : fallI o (i + 1) = fallI o i := by
  show (if _ then _ else _) = _
  rw [if_neg (fun h => h1 (by omega))]
theorem fall_no2 {o : List Int} {i : Nat} (h2 : ¬ o.getD (i : Int).toNat 0 < o.getD ((i : Int) - 1).toNat 0) : fallI o (i + 1) = fallI o i := by
  rw [toNat_pred, Int.toNat_natCast] at h2
  show (if _ then _ else _) = _
  rw [if_neg (fun h => h2 h.2)]
noncomputable def FallPost (h₀ : Heap) (L : Addr) (s : Shared) (led : List (Addr × Obj)) (ad : Addr) (o : List Int) (x : Str) (tx tk9 : Tok) (i : Nat) (f : Flow) (s' : Shared) : Prop :=
  f = .next ∧ ∃ h' tk' m' tf, s' = { s with heap := h', toks := tk' } ∧ Fr h₀ L h' m' ∧ News h₀ L h' led ∧ m' nK = some (.int (i : Nat) tk9) ∧ m' nOrder = some (.ref ad) ∧ m' nWord = some (.str x tx) ∧ m' nFalls = some (.int (fallI o (i + 1)) tf)
theorem FallPost.intro {h₀ h' : Heap} {L : Addr} {s : Shared} {led : List (Addr × Obj)} {ad : Addr} {o : List Int} {x : Str} {tx tk9 tf : Tok} {i tk' : Nat} {m' : Str → Option Value} {v : Int} (hv : fallI o (i + 1) = v) (F : Fr h₀ L h' m') (N : News h₀ L h' led)
    (e1 : m' nK = some (.int (i : Nat) tk9)) (e2 : m' nOrder = some (.ref ad)) (e3 : m' nWord = some (.str x tx)) (e4 : m' nFalls = some (.int v tf)) : FallPost h₀ L s led ad o x tx tk9 i .next { s with heap := h', toks := tk' } :=
  ⟨rfl, h', tk', m', tf, rfl, F, N, e1, e2, e3, hv ▸ e4⟩
theorem if_falls {M : Model} {A : Around} {E : Value → Shared → Prop} {t : Sem Flow} {Q : Flow → Shared → Prop} {h₀ : Heap} {L : Addr} {s : Shared} {led : List (Addr × Obj)} {ad : Addr} {o : List Int} {x : Str} {tx tk9 : Tok} {i : Nat}
    (h : wpAny M A t (FallPost h₀ L s led ad o x tx tk9 i) E s)
    (k : ∀ h' tk' tf (u : Str → Option Value), Fr h₀ L h' (fun z => if z = nK then some (.int (i : Nat) tk9) else if z = nOrder then some (.ref ad) else if z = nWord then some (.str x tx) else if z = nFalls then some (.int (fallI o (i + 1)) tf) else u z) → News h₀ L h' led → Q .next { s with heap := h', toks := tk' }) :
    wpAny M A t Q E s := by
  refine wpAny_mono h (fun f s' q => ?_) fun _ _ e => e
  obtain ⟨rfl, h', tk', m', tf, rfl, F, N, e1, e2, e3, e4⟩ := q
  rw [pin5 (a := nK) (b := nOrder) (c := nWord) (d := nFalls) (e := nFalls) e1 e2 e3 e4 e4] at F
  exact k h' tk' tf _ F N
end Mine
end
theorem Mine.rs51 : True := by k_with_none; w_top off; trivial
section
open PySem PySem.W PyProof.Rows PySem.Calls PyProof.V PySem.Spec
set_option maxRecDepth 100000
set_option maxHeartbeats 8000000
namespace Mine
noncomputable def TnEnd (h₀ : Heap) (L : Addr) (m : Str → Option Value) (s : Shared) (led : List (Addr × Obj)) (ok : Bool) (s₂ : Shared) : Prop := ok = false ∧ ∃ h' tk', s₂ = { s with heap := h', toks := tk' } ∧ Fr h₀ L h' m ∧ News h₀ L h' led
section
variable {prog : Program} {w : World} {A : Around} {E : Value → Shared → Prop} {s : Shared} {h₀ : Heap} {L : Addr} {m : Str → Option Value} {env : Env}
/-- none of the bools passes the test -/
theorem told_none {ct elt : PySem.Expr} {x : Str} {scope : Scope} {cl : List (Str × Addr)} {S : List (Addr × Obj) → Prop} {Fin : List Value → List (Addr × Obj) → Prop} {news : List (Addr × Obj)} {bs : List Bool} (hS : S news)
    (turn : ∀ b I oI C oC D m₂ h tk (E' : Value → Shared → Prop), LCg.NsObj oC m₂ → m₂ x = some (.bool b) → Fr h₀ L h m → News h₀ L h ((I, oI) :: (C, oC) :: (D, LCg.lst []) :: news) →
      wpAny (model prog w) A (isTrue ct (compEnvC scope cl C env) (eval ct (compEnvC scope cl C env))) (TnEnd h₀ L m s ((I, oI) :: (C, oC) :: (D, LCg.lst []) :: news)) E' { s with heap := h, toks := tk })
    (fin : Fin [] news) : LCt.CompRestT prog w A h₀ L m env ct elt x scope cl s S (fun i v => (bls bs).toArray[i]? = some v) Fin (bls bs).toArray.size 0 [] news := by
  have key : ∀ (j i : Nat), LCt.CompRestT prog w A h₀ L m env ct elt x scope cl s S (fun i v => (bls bs).toArray[i]? = some v) Fin j i [] news := by
    intro j
    induction j with
    | zero => intro i; exact LCt.CompRestT.zero fin
    | succ j ih =>
      intro i
      refine LCt.CompRestT.succ ?_
      intro v I oI C oC D m₂ h tk E' hv hC hx F N off ne
      have hv' : (bls bs)[i]? = some v := by simpa using hv
      rw [List.getElem?_map] at hv'
      obtain ⟨b, hb, rfl⟩ := Option.map_eq_some_iff.mp hv'
      refine wpAny_mono (turn b I oI C oC D m₂ h tk E' hC hx F N) (fun ok s₂ hq => ?_) fun _ _ e => e
      obtain ⟨rfl, h', tk', rfl, F', N'⟩ := hq
      rw [if_neg Bool.false_ne_true]
      exact ⟨h', tk', news, rfl, F', N', off, hS, ih (i + 1)⟩
  exact key _ 0
end
theorem countOf_ctk {w : World} {mean : ExcName → Option Value} {mg mb : Str → Option Value} {ls : List Str} {news : List (Addr × Obj)} {dp un : Nat} {gd : Option (List Code)} {cn : Str} {cs : Scope} {a : Addr} {ccd : Value} {cl : List (Str × Addr)} {outer : List Env} {A₀ : Around} {base h₀ : Heap} {L : Addr} {m : Str → Option Value} {s : Shared} {Q E : Value → Shared → Prop} {l : Addr} {bs : List Bool} {k : Int}
    (k1 : Below A₀ base outer h₀) (k2 : Fr h₀ L s.heap m) (k3 : (KK w.params).In h₀) (k4 : News h₀ L s.heap news) (k5 : Top vw ls mean mg mb h₀) (kK : cs.kind = .function) (kd : dp + 4 < recursionLimit) (ku : un + 40 < cLine)
    (hl : (l, LCg.lst (bls bs)) ∈ news) (hn : bs.length ≤ 36) (hk : cntB bs = k)
    (ret : ∀ (t : Tok) (h' : Heap) (tk' : Nat), Fr h₀ L h' m → News h₀ L h' news → Q (.int k t) { s with heap := h', toks := tk' }) :
    wpAny (model P w) (ktrTop dp un gd cn cs L a ccd cl outer) (call (.ref 49) [.ref l, .bool true]) Q E s := by
  subst hk
  exact countOf_ct k1 k2 k3 k4 k5 kK kd ku hl hn ret
end Mine
end
theorem Mine.rs52 : True := by k_with_none; w_top off; trivial
section
open PySem PySem.W PyProof.Rows PySem.Calls PyProof.V PySem.Spec
set_option maxRecDepth 100000
set_option maxHeartbeats 8000000
namespace Mine
abbrev nFront := Str.ofString "front"
abbrev nV := Str.ofString "v"
noncomputable def NeEnd (g : Heap) (L : Addr) (s : Shared) (led : List (Addr × Obj)) (vf vo vw vl : Value) (Q : Flow → Shared → Prop) (f : Flow) (s₂ : Shared) : Prop :=
  match f with
  | .ret v => Q (.ret v) s₂
  | .brk => Q .next s₂
  | _ => ∃ h' tk G m', s₂ = { s with heap := h', toks := tk, gens := G } ∧ (∀ y ∈ G, y.bare = true) ∧ Fr g L h' m' ∧ News g L h' led ∧ m' nFront = some vf ∧ m' nOrder = some vo ∧ m' nWord = some vw ∧ m' nFalls = some vl
theorem NeEnd.intro {g h' : Heap} {L : Addr} {s : Shared} {led : List (Addr × Obj)} {vf vo vw vl : Value} {tk : Nat} {m' : Str → Option Value} {Q : Flow → Shared → Prop} (hG : ∀ y ∈ s.gens, y.bare = true) (F : Fr g L h' m') (N : News g L h' led)
    (e1 : m' nFront = some vf) (e2 : m' nOrder = some vo) (e3 : m' nWord = some vw) (e4 : m' nFalls = some vl) : NeEnd g L s led vf vo vw vl Q .next { s with heap := h', toks := tk } := ⟨h', tk, s.gens, m', rfl, hG, F, N, e1, e2, e3, e4⟩
section
variable {prog : Program} {w : World} {A : Around} {E : Value → Shared → Prop} {s : Shared} {env : Env} {g : Heap} {Q : Flow → Shared → Prop}
theorem near_src {body : List Stmt} {r : Addr} {t u v : Tok} {n : Nat} {m : Str → Option Value} {led : List (Addr × Obj)} {vf vo vw vl : Value}
    (hr : IsRange s.heap r 0 n 1 t u v) (hn : n ≤ 1000) (hG : ∀ y ∈ s.gens, y.bare = true) (F : Fr g env.locals s.heap m) (N : News g env.locals s.heap led)
    (e1 : m nFront = some vf) (e2 : m nOrder = some vo) (e3 : m nWord = some vw) (e4 : m nFalls = some vl)
    (turn : ∀ (i : Nat) ti (u : Str → Option Value) h tk G I oI, i < n → (∀ y ∈ G, y.bare = true) →
      Fr g env.locals h (fun z => if z = nV then some (.int (i : Nat) ti) else if z = nFront then some vf else if z = nOrder then some vo else if z = nWord then some vw else if z = nFalls then some vl else u z) → News g env.locals h ((I, oI) :: led) →
      wpAny (model prog w) A (execs body env) (NeEnd g env.locals { s with heap := h, toks := tk, gens := G } ((I, oI) :: led) vf vo vw vl Q) E { s with heap := h, toks := tk, gens := G })
    (done : ∀ h tk G m', (∀ y ∈ G, y.bare = true) → Fr g env.locals h m' → News g env.locals h led → m' nFront = some vf → m' nOrder = some vo → m' nWord = some vw → m' nFalls = some vl → Q .next { s with heap := h, toks := tk, gens := G }) :
    RgSrc prog w A g env nV body Q E (.ref r) s := by
  refine ⟨r, t, u, v, n, led, m, fun _ m' nw => nw = led ∧ m' nFront = some vf ∧ m' nOrder = some vo ∧ m' nWord = some vw ∧ m' nFalls = some vl, rfl, hr, hn, hG, F, N, ⟨rfl, e1, e2, e3, e4⟩, ?_, ?_⟩
  · rintro i ti m' nw h tk G I oI hi ⟨rfl, f1, f2, f3, f4⟩ hG' hnI F' N'
    rw [pin5 (m := fun z => if z = nV then some (.int (i : Nat) ti) else m' z) (a := nV) (b := nFront) (c := nOrder) (d := nWord) (e := nFalls) (va := .int (i : Nat) ti) (vb := vf) (vc := vo) (vd := vw) (ve := vl) (if_pos rfl)
      (by show (if nFront = nV then _ else m' nFront) = _; rw [if_neg (by decide)]; exact f1) (by show (if nOrder = nV then _ else m' nOrder) = _; rw [if_neg (by decide)]; exact f2)
      (by show (if nWord = nV then _ else m' nWord) = _; rw [if_neg (by decide)]; exact f3) (by show (if nFalls = nV then _ else m' nFalls) = _; rw [if_neg (by decide)]; exact f4)] at F'
    refine wpAny_mono (turn i ti _ h tk G I oI hi hG' F' N') (fun f s₂ q => ?_) fun _ _ e => e
    cases f with
    | ret v => exact q
    | brk => exact q
    | next =>
      obtain ⟨h₃, tk₃, G₃, m₃, rfl, hG₃, F₃, N₃, f1, f2, f3, f4⟩ := q
      exact ⟨h₃, tk₃, G₃, m₃, nw, rfl, hG₃, F₃, N₃, hnI, rfl, f1, f2, f3, f4⟩
    | cont =>
      obtain ⟨h₃, tk₃, G₃, m₃, rfl, hG₃, F₃, N₃, f1, f2, f3, f4⟩ := q
      exact ⟨h₃, tk₃, G₃, m₃, nw, rfl, hG₃, F₃, N₃, hnI, rfl, f1, f2, f3, f4⟩
  · rintro h tk G m' nw hG' F' N' ⟨rfl, f1, f2, f3, f4⟩
    exact done h tk G m' hG' F' N' f1 f2 f3 f4
theorem index_small {l : Addr} {vs : List Value} {ns : List Int} {k : Int} {t : Tok} {Q : Value → Shared → Prop} (hl : s.heap.IsList l vs.toArray) (hi : IntsAre vs ns) (hb : ns.length ≤ 1000) (hk : k ∈ ns)
    (h : Q (.int (ns.idxOf k : Nat) s.toks) { s with toks := s.toks + 1 }) : wpAny (model prog w) A (call (.builtin "list.index") [.ref l, .int k t]) Q E s := by
  obtain ⟨⟨cls, dd, data, sl⟩, ho, hc, n, hd⟩ := id hl
  dsimp only at hc hd
  subst hc hd
  have hlen := hi.length
  have hj : ns.idxOf k < ns.length := List.idxOf_lt_length_iff.mpr hk
  refine call_meets PySem.F.slot_list_index ⟨_, ho, rfl⟩ PySem.F.entry_list_index (PySem.F.args_list_index_2 _ _)
    (PySem.SeqAt.list_indexAt l vs.toArray n dd sl (.int k t) (isInt k) (ns.idxOf k) (by simpa [hlen] using hj) (by omega) ?_ ?_) ⟨ho, fun y hy => (eq_isInt k t hi y (by simpa using hy)).at _ _, h⟩
  · show isInt k vs[ns.idxOf k] = true
    rw [isInt_at k hi _ (by omega) hj]
    simpa using List.getElem_idxOf hj
  · intro j hjs hlt
    show isInt k vs[j] = false
    rw [isInt_at k hi j (by simpa using hjs) (by omega)]
    exact ne_of_lt_idxOf hlt _
theorem in_yes {l : Addr} {vs : List Value} {ns : List Int} {k : Int} {t : Tok} {Q : Value → Shared → Prop} (hl : s.heap.IsList l vs.toArray) (hi : IntsAre vs ns) (hk : k ∈ ns) (h : Q (.bool true) s) : wpAny (model prog w) A (compareOp .In (.int k t) (.ref l)) Q E s := by
  refine in_list_ints hl hi ?_
  rw [List.any_eq_true.mpr ⟨k, hk, by simp⟩]
  exact h
theorem in_no {l : Addr} {vs : List Value} {ns : List Int} {k : Int} {t : Tok} {Q : Value → Shared → Prop} (hl : s.heap.IsList l vs.toArray) (hi : IntsAre vs ns) (hk : k ∉ ns) (h : Q (.bool false) s) : wpAny (model prog w) A (compareOp .In (.int k t) (.ref l)) Q E s := by
  refine in_list_ints hl hi ?_
  rw [List.any_eq_false.mpr (fun y hy => by simp; exact fun e => hk (e ▸ hy))]
  exact h
end
theorem RgEnd.intro {g h' : Heap} {L : Addr} {s : Shared} {I : Addr} {oI : Obj} {J : (Str → Option Value) → List (Addr × Obj) → Prop} {Q : Flow → Shared → Prop} {tk : Nat} {G : Array GenState} {m' : Str → Option Value} {nw led : List (Addr × Obj)}
    (hG : ∀ y ∈ G, y.bare = true) (F : Fr g L h' m') (N : News g L h' led) (sub : ∀ p ∈ (I, oI) :: nw, p ∈ led) (off : ∀ p ∈ nw, p.1 ≠ I) (hJ : J m' nw) : RgEnd g L s I oI J Q .next { s with heap := h', toks := tk, gens := G } :=
  ⟨h', tk, G, m', nw, rfl, hG, F, fun p hp => N p (sub p hp), off, hJ⟩
end Mine
end
theorem Mine.rs53 : True := by k_with_none; w_top off; trivial
section
open PySem PySem.W PyProof.Rows PySem.Calls PyProof.V PySem.Spec
set_option maxRecDepth 100000
set_option maxHeartbeats 8000000
namespace Mine
theorem fillCtT1 : (fun (_ : OpenLaw) (_ : Params → Frag) => True) PySem.Challenge.rw_wo0061_01 KK := by
  k_fill
  trivial
theorem near_no {letters Wv : Str} {T : List Int} {v : Int} (r : decide (((Wv.cps.toList.idxOf (codeAt letters (v + 1)) : Nat) : Int) < (Wv.cps.toList.idxOf (codeAt letters v) : Nat)) = decide (((T.idxOf (v + 1) : Nat) : Int) < (T.idxOf v : Nat)))
    (e : (decide (((Wv.cps.toList.idxOf ((Txt.charAt letters (v + 1)).getD 0) : Nat) : Int) < (Wv.cps.toList.idxOf ((Txt.charAt letters v).getD 0) : Nat)) != decide (((T.idxOf (v + 1) : Nat) : Int) < (T.idxOf v : Nat))) = true) : False := by
  have r' : decide (((Wv.cps.toList.idxOf ((Txt.charAt letters (v + 1)).getD 0) : Nat) : Int) < (Wv.cps.toList.idxOf ((Txt.charAt letters v).getD 0) : Nat)) = decide (((T.idxOf (v + 1) : Nat) : Int) < (T.idxOf v : Nat)) := r
  rw [r'] at e
  simp at e
theorem near_hd {letters Wv : Str} {v : Int} (h : codeAt letters v ∈ Wv.cps.toList) : (Txt.charAt letters v).getD 0 ∈ Wv.cps.toList := h

theorem turn1 {w : World} {mean : ExcName → Option Value} {mg mb : Str → Option Value} {ls : List Str} {fa : Addr} {cd : Value} {h₀ : Heap} {L : Addr} {sc : Scope} {s : Shared} {Q : Flow → Shared → Prop} {E : Value → Shared → Prop} {fb : List Stmt} {letters x : Str} {o : List Int} {us : List Value} {ad I : Addr} {nO i : Nat} {oI oL oW : Obj} {tl tx tW tf tk9 : Tok} {u : Str → Option Value}
    (hsc : (partsOf 25).2.2 = sc) (k1 : Below callerA h₀ [] h₀) (k3 : (KK w.params).In h₀) (k5 : Top vw ls mean mg mb h₀) (hE : PassesOwn (model P w) (lawA sc L fa cd) (lawE sc L fa cd) E) (hfb : bodyAt (partsOf 25).2.1 8 = fb) (X : LF letters o x) (hi : i < 6) (hI : IntsAre us o) (hG : ∀ y ∈ s.gens, y.bare = true)
    (dL : oL.data = .cell (some (.str letters tl))) (dW : oW.data = .cell (some (.str (wovS x i) tW))) (n1 : @Ne Nat ad I) (n2 : @Ne Nat (L + 1) I) (n3 : @Ne Nat (L + 2) I)
    (F : Fr h₀ L s.heap (fun z => if z = nK then some (.int (i : Nat) tk9) else if z = nOrder then some (.ref ad) else if z = nWord then some (.str x tx) else if z = nFalls then some (.int (fallI o i) tf) else u z))
    (N : News h₀ L s.heap [(I, oI), (ad, W.listOf us.toArray nO), (L + 1, oL), (L + 2, oW)]) :
    wpAny (model P w) (lawA sc L fa cd) (execs fb (lawE sc L fa cd)) (RgEnd h₀ L s I oI (J1 L ad nO us oL o x tx (i + 1)) Q) E s := by
  k_with_none
  (k_with "eval ListComp" => (k_here; k_dflt (refine LCt.ListComp_T (F₀ := by k_asm) (by with_unfolding_all rfl) (by decide) (by rfl) (by decide) (by rfl) ?_)))
  (k_with "compareOp In int ref" => (k_here; k_dflt (first | (refine' in_yes ?l ?I ?k ?_; (case l => exact News.isList (by k_asm) (by k_mem)); (case I => assumption); (case k => assumption); k_whole) | (refine' in_no ?l ?I ?k ?_; (case l => exact News.isList (by k_asm) (by k_mem)); (case I => assumption); (case k => assumption); k_whole))))
  (k_with "call builtin:list.index" => (k_here; k_dflt (refine' index_small ?l ?I ?b ?k ?_; (case l => exact News.isList (by k_asm) (by k_mem)); (case I => assumption); (case b => omega); (case k => assumption); k_whole)))
  (k_with "exec Assign cons ListComp" => (k_here; k_dflt (refine Assign_ListComp_SS (by k_asm) (by rfl) (by rfl) (by with_unfolding_all rfl) (by with_unfolding_all rfl) (by decide) (by rfl) (by decide) (by rfl) (by rfl) (by decide) (by rfl) (by rfl) ?_)))
  (k_with "subscriptTail" => (k_here; (with_reducible show wpAny _ _ (subscriptTail _ _ (Value.ref _) (Value.int _ _)) _ _ _); k_dflt (refine' item_list_intsR ?l ?I ?a ?b ?c ?_; (case l => exact News.isList (by k_asm) (by k_mem)); (case I => assumption); (case a => omega); (case b => omega); (case c => omega); k_whole); intro _))
  (k_with "exec For Name Call cons nil" => (k_here; k_dflt (refine For_rg (by k_asm) (by rfl) (by rfl) (by rfl) ?_ (hE := by assumption))))
  (k_with "call ref" => (k_here; k_dflt (refine' weave_ct ?k1 ?k2 ?k3 ?k4 ?k5 ?kK ?kd ?ku ?hx ?hy ?hB ?_; (case k1 => k_asm); (case k2 => k_asm); (case k3 => k_asm); (case k4 => k_asm); (case k5 => k_asm); (case kK => first | exact rfl | assumption); (case kd => ktr_room); (case ku => ktr_units); (case hx => omega); (case hy => exact rfl); (case hB => assumption); k_whole); intro t'zz h'zz tk'zz G'zz hB'zz F'zz N'zz; (try k_sweep); (try dsimp only); (try k_fold)))
  (k_with "call ref" => (k_here; k_dflt (refine' strcoll_ct ?k1 ?k2 ?k3 ?k4 ?k5 ?kK ?kd ?ku  ?_; (case k1 => k_asm); (case k2 => k_asm); (case k3 => k_asm); (case k4 => k_asm); (case k5 => k_asm); (case kK => first | exact rfl | assumption); (case kd => ktr_room); (case ku => ktr_units); k_whole); intro t'zz h'zz tk'zz F'zz N'zz; (try k_sweep); (try dsimp only); (try k_fold)))
  (k_with "call ref" => (k_here; k_dflt (refine' ell_ct ?k1 ?k2 ?k3 ?k4 ?k5 ?kK ?kd ?ku ?hc ?hd ?hy ?_; (case k1 => k_asm); (case k2 => k_asm); (case k3 => k_asm); (case k4 => k_asm); (case k5 => k_asm); (case kK => first | exact rfl | assumption); (case kd => ktr_room); (case ku => ktr_units); (case hc => assumption); (case hd => assumption); (case hy => omega); k_whole); intro t'zz h'zz tk'zz F'zz N'zz; (try k_sweep); (try dsimp only); (try k_fold)))
  (k_with "call ref" => (k_here; k_dflt (refine' countOf_ctk ?k1 ?k2 ?k3 ?k4 ?k5 ?kK ?kd ?ku ?hl ?hn ?hk ?_; (case k1 => k_asm); (case k2 => k_asm); (case k3 => k_asm); (case k4 => k_asm); (case k5 => k_asm); (case kK => first | exact rfl | assumption); (case kd => ktr_room); (case ku => ktr_units); (case hl => k_mem); (case hn => assumption); (case hk => assumption); k_whole); intro t'zz h'zz tk'zz F'zz N'zz; (try k_sweep); (try dsimp only); (try k_fold)))
  (k_with "call ref" => (k_here; k_dflt (refine' indexOf_ct ?k1 ?k2 ?k3 ?k4 ?k5 ?kK ?kd ?ku ?hx ?hd ?hB ?ht0 ?ht1 ?_; (case k1 => k_asm); (case k2 => k_asm); (case k3 => k_asm); (case k4 => k_asm); (case k5 => k_asm); (case kK => first | exact rfl | assumption); (case kd => ktr_room); (case ku => ktr_units); (case hx => omega); (case hd => exact near_hd (by assumption)); (case hB => assumption); (case ht0 => first | omega | assumption); (case ht1 => first | omega | exact Nat.lt_succ_self _); k_whole); intro t'zz h'zz tk'zz htk'zz F'zz N'zz; (try k_sweep); (try dsimp only); (try k_fold)))
  subst hsc hfb
  have m1 := news_ne N (.tail _ (.head _)) (.tail _ (.tail _ (.head _))) (by rw [dL]; exact nofun)
  have m2 := news_ne N (.tail _ (.head _)) (.tail _ (.tail _ (.tail _ (.head _)))) (by rw [dW]; exact nofun)
  have B9 := NoneBooked.of k3
  have ho6 := X.ho
  have hw1 := X.wlen i (by omega)
  have hx6 := X.hx
  have hkindL : (partsOf 25).2.2.kind = ScopeKind.function := by kernel_rfl
  k_dflt (refine wpAny_execs_cons ?_)
  k_dflt (refine if_falls (h₀ := h₀) (L := L) (ad := ad) (x := x) (tx := tx) (tk9 := tk9) (i := i) (o := o) (led := [(I, oI), (ad, W.listOf us.toArray nO), (L + 1, oL), (L + 2, oW)]) ?hif ?hk)
  case hif =>
    k_steps
    all_goals (first | exact FallPost.intro (fall_yes (by assumption) (by assumption)) (by assumption) (by assumption) (by with_unfolding_all rfl) (by with_unfolding_all rfl) (by with_unfolding_all rfl) (by with_unfolding_all rfl) | exact FallPost.intro (fall_no2 (by assumption)) (by assumption) (by assumption) (by with_unfolding_all rfl) (by with_unfolding_all rfl) (by with_unfolding_all rfl) (by with_unfolding_all rfl) | exact FallPost.intro (fall_no1 (by assumption)) (by assumption) (by assumption) (by with_unfolding_all rfl) (by with_unfolding_all rfl) (by with_unfolding_all rfl) (by with_unfolding_all rfl))
  case hk =>
    clear F N
    intro h' tk' tf' u' F' N'
    k_steps
    (rename _ = Data.cell _ => hcell)
    have hWe : weaveS (wovS x i) (Txt.item x (i : Int)) = wovS x (i + 1) := rfl
    rw [hWe] at *
    have hcW : ∃ t, _ = Data.cell (some (Value.str (wovS x (i + 1)) t)) := ⟨_, hcell⟩
    clear hcell
    obtain ⟨tW', hcell⟩ := hcW
    have q1 := X.wlen (i + 1) (by omega)
    have q2 := X.wgood (i + 1) (by omega)
    have q3 := X.wfall i hi
    have q4 := X.near i hi
    have q5 : ∀ m' nw, J1 L ad nO us oL o x tx (i + 1) m' nw ↔ ∃ oW tW tf, nw = [(ad, W.listOf us.toArray nO), (L + 1, oL), (L + 2, oW)] ∧ oW.data = .cell (some (.str (wovS x (i + 1)) tW)) ∧ m' nOrder = some (.ref ad) ∧ m' nWord = some (.str x tx) ∧ m' nFalls = some (.int (fallI o (i + 1)) tf) := fun _ _ => Iff.rfl
    generalize hWd : wovS x (i + 1) = Wv at *
    clear hWe dW
    k_dflt (refine Text2Src.intro gtB (fun c d => ellB c d Wv) (by k_asm) (by k_asm) (by omega) (fun gg => ⟨?iter, ?turn⟩) ?fin2)
    case iter =>
      intro C' led' h'' tk'' E' F'' N'' hsub'
      have N3 := fun p hp => N'' p (hsub' p hp)
      clear N''
      k_steps
    case turn =>
      intro c' d' u'' v'' J' oJ' I' oI' C' oC' D' m₂' ys' h'' tk'' E' hc' hd' hC' hx1' hx2' F'' N''
      have g1 := q2 c' hc'
      have g2 := q2 d' hd'
      k_steps
      · exact ⟨decide_eq_true (by assumption), _, _, rfl, rfl, by assumption, by assumption⟩
      · exact ⟨decide_eq_false (by first | assumption | omega), _, _, rfl, by assumption, by assumption⟩
    case fin2 =>
      intro gg
      have q6 : (verdB gtB (fun c d => ellB c d Wv) Wv.cps.toList Wv.cps.toList).length ≤ 36 := by
        have h1 := verdB_len gtB (fun c d => ellB c d Wv) Wv.cps.toList Wv.cps.toList
        have h2 : Wv.cps.toList.length ≤ 6 := by
          have : Wv.cps.toList.length = Wv.length := by simp [PySem.Str.length]
          omega
        have h3 := Nat.mul_le_mul h2 h2
        omega
      generalize verdB gtB (fun c d => ellB c d Wv) Wv.cps.toList Wv.cps.toList = bs at *
      k_steps
      k_dflt (refine LCt.CompSrcT.ledger (its := (bls bs).toArray) (by rfl) (by k_asm) (by k_asm) (by k_mem) (by rw [List.size_toArray, List.length_map, PySem.sizeLine_eq]; omega) (fun gg2 => told_none (.inr ⟨_, by k_mem, rfl, _, rfl⟩) ?tn ?tf))
      case tn =>
        intro b' I' oI' C' oC' D' m₂' h'' tk'' E' hC' hx1' F'' N''
        k_steps
        exact ⟨rfl, _, _, rfl, by assumption, by assumption⟩
      case tf =>
        k_steps
        · exact absurd rfl (by assumption)
        · (rename IntsAre _ (List.take _ o) => hIf)
          have hlf := IntsAre.length hIf
          have eT : (↑i + 1 : Int).toNat = i + 1 := by omega
          rw [eT] at hIf
          have hTl : (List.take (i + 1) o).length ≤ 6 := by rw [List.length_take]; omega
          generalize hTd : List.take (i + 1) o = T at *
          k_dflt (refine near_src (n := 5) (by assumption) (by decide) (by assumption) (by k_asm) (by k_asm) (by rfl) (by rfl) (by rfl) (by rfl) ?nturn ?ndone)
          case nturn =>
            intro j' tj' u3' h3' tk3' G3' I3' oI3' hj' hG3' F3' N3'
            show wpAny _ _ (execs _ _) (NeEnd h₀ L _ _ _ _ _ _ _) _ _
            have F4' : Fr h₀ L h3' _ := F3'
            have N4' : News h₀ L h3' _ := N3'
            clear F3' N3'
            have hlt6 := X.hlet
            by_cases h1 : (j' : Int) ∈ T
            · by_cases h2 : (j' : Int) + 1 ∈ T
              · obtain ⟨r1, r2, r3⟩ := q4 j' (by omega) (by omega) h1 h2
                k_steps
                · exact (near_no r3 (by assumption)).elim
                · exact NeEnd.intro hG3' (by assumption) (by assumption) (by with_unfolding_all rfl) (by with_unfolding_all rfl) (by with_unfolding_all rfl) (by with_unfolding_all rfl)
              · k_steps
                exact NeEnd.intro hG3' (by assumption) (by assumption) (by with_unfolding_all rfl) (by with_unfolding_all rfl) (by with_unfolding_all rfl) (by with_unfolding_all rfl)
            · k_steps
              exact NeEnd.intro hG3' (by assumption) (by assumption) (by with_unfolding_all rfl) (by with_unfolding_all rfl) (by with_unfolding_all rfl) (by with_unfolding_all rfl)
          case ndone =>
            intro h3' tk3' G3' m3' hG3' F3' N3' f1' f2' f3' f4'
            k_steps
            refine RgEnd.intro (nw := [(ad, PySem.W.listOf us.toArray nO), (L + 1, oL), (L + 2, _)]) hG3' F3' N3' (fun p hp => ?_) (fun p hp => ?_) ((q5 _ _).mpr ⟨_, tW', tf', rfl, hcell, f2', f3', f4'⟩)
            · simp only [List.mem_cons, List.not_mem_nil, or_false] at hp
              rcases hp with rfl | rfl | rfl | rfl
              · k_mem
              · k_mem
              · k_mem
              · k_mem
            · simp only [List.mem_cons, List.not_mem_nil, or_false] at hp
              rcases hp with rfl | rfl | rfl
              · exact n1
              · exact n2
              · exact n3

end Mine
end
theorem Mine.rs54 : True := by k_with_none; w_top off; trivial
section
open PySem PySem.W PyProof.Rows PySem.Calls PyProof.V PySem.Spec
set_option maxRecDepth 100000
set_option maxHeartbeats 8000000
namespace Mine
theorem fillCtT2 : (fun (_ : OpenLaw) (_ : Params → Frag) => True) PySem.Challenge.rw_wo0061_01 KK := by
  k_fill
  trivial

abbrev nBack := Str.ofString "back"
noncomputable def J2 (L : Addr) (oL : Obj) (x : Str) (tx : Tok) (y : Str) (i : Nat) (m' : Str → Option Value) (nw : List (Addr × Obj)) : Prop :=
  ∃ oW tW tb, nw = [(L + 1, oL), (L + 2, oW)] ∧ oW.data = .cell (some (.str (unwS y i) tW)) ∧ m' nWord = some (.str x tx) ∧ m' nBack = some (.str (backS y i) tb)
theorem backS_len (y : Str) : ∀ i, (backS y i).length = i
  | 0 => rfl
  | i + 1 => by
    show (Txt.item (unwS y i) (-1) ++ backS y i).length = _
    rw [PySem.Str.length_append, backS_len y i]
    show 1 + i = i + 1
    omega
theorem turn2 {w : World} {mean : ExcName → Option Value} {mg mb : Str → Option Value} {ls : List Str} {fa : Addr} {cd : Value} {h₀ : Heap} {L : Addr} {sc : Scope} {s : Shared} {Q : Flow → Shared → Prop} {E : Value → Shared → Prop} {fb : List Stmt} {x y : Str} {I : Addr} {i : Nat} {oI oL oW : Obj} {tx tW tb tk9 : Tok} {u : Str → Option Value}
    (hsc : (partsOf 25).2.2 = sc) (k1 : Below callerA h₀ [] h₀) (k3 : (KK w.params).In h₀) (k5 : Top vw ls mean mg mb h₀) (hE : PassesOwn (model P w) (lawA sc L fa cd) (lawE sc L fa cd) E) (hfb : bodyAt (partsOf 25).2.1 10 = fb) (hi : i < 6) (hlen : (unwS y i).length = 6 - i) (hG : ∀ y ∈ s.gens, y.bare = true)
    (dW : oW.data = .cell (some (.str (unwS y i) tW))) (n2 : @Ne Nat (L + 1) I) (n3 : @Ne Nat (L + 2) I)
    (F : Fr h₀ L s.heap (fun z => if z = nK then some (.int (i : Nat) tk9) else if z = nWord then some (.str x tx) else if z = nBack then some (.str (backS y i) tb) else u z))
    (N : News h₀ L s.heap [(I, oI), (L + 1, oL), (L + 2, oW)]) :
    wpAny (model P w) (lawA sc L fa cd) (execs fb (lawE sc L fa cd)) (RgEnd h₀ L s I oI (J2 L oL x tx y (i + 1)) Q) E s := by
  k_with_none
  (k_with "call ref" => (k_here; k_dflt (refine' unweave_ct ?k1 ?k2 ?k3 ?k4 ?k5 ?kK ?kd ?ku ?hx ?hx1 ?hB ?_; (case k1 => k_asm); (case k2 => k_asm); (case k3 => k_asm); (case k4 => k_asm); (case k5 => k_asm); (case kK => first | exact rfl | assumption); (case kd => ktr_room); (case ku => ktr_units); (case hx => omega); (case hx1 => omega); (case hB => assumption); k_whole); intro ad'zz t1'zz t2'zz h'zz tk'zz G'zz hB'zz F'zz N'zz; (try k_sweep); (try dsimp only); (try k_fold)))
  (k_with "call ref" => (k_here; k_dflt (refine' concat_ct ?k1 ?k2 ?k3 ?k4 ?k5 ?kK ?kd ?ku ?hlen ?_; (case k1 => k_asm); (case k2 => k_asm); (case k3 => k_asm); (case k4 => k_asm); (case k5 => k_asm); (case kK => first | exact rfl | assumption); (case kd => ktr_room); (case ku => ktr_units); (case hlen => first | omega | (simp only [PyProof.Rows.len_item]; omega)); k_whole); intro t'zz h'zz tk'zz F'zz N'zz; (try k_sweep); (try dsimp only); (try k_fold)))
  subst hsc hfb
  have hkindL : (partsOf 25).2.2.kind = ScopeKind.function := by kernel_rfl
  have hb := backS_len y i
  k_steps
  (rename News _ _ _ (_ :: _) => N9)
  have m9 := news_ne N9 (.head _) (.tail _ (.tail _ (.tail _ (.head _)))) (by rw [dW]; exact nofun)
  k_steps
  (rename _ = Data.cell _ => hcell)
  have hcW : ∃ t, _ = Data.cell (some (Value.str (unwS y (i + 1)) t)) := ⟨_, hcell⟩
  clear hcell
  obtain ⟨tW', hcell⟩ := hcW
  exact RgEnd.intro (nw := [(L + 1, oL), (L + 2, _)]) (by assumption) (by assumption) (by assumption) (fun p hp => by
      simp only [List.mem_cons, List.not_mem_nil, or_false] at hp
      rcases hp with rfl | rfl | rfl
      · k_mem
      · k_mem
      · k_mem) (fun p hp => by
      simp only [List.mem_cons, List.not_mem_nil, or_false] at hp
      rcases hp with rfl | rfl
      · exact n2
      · exact n3) ⟨_, tW', _, rfl, hcell, by with_unfolding_all rfl, by with_unfolding_all rfl⟩

end Mine
end
theorem Mine.rs55 : True := by k_with_none; w_top off; trivial
section
open PySem PySem.W PyProof.Rows PySem.Calls PyProof.V PySem.Spec
set_option maxRecDepth 100000
set_option maxHeartbeats 8000000
namespace Mine
theorem fillCtLp : (fun (_ : OpenLaw) (_ : Params → Frag) => True) PySem.Challenge.rw_wo0061_01 KK := by
  k_fill
  trivial

theorem sub3 {P : Addr × Obj → Prop} {a b c : Addr × Obj} (h1 : P a) (h2 : P b) (h3 : P c) : ∀ p ∈ [a, b, c], P p := fun p hp => by
  simp only [List.mem_cons, List.not_mem_nil, or_false] at hp
  rcases hp with rfl | rfl | rfl
  · exact h1
  · exact h2
  · exact h3
theorem loop1_src {w : World} {mean : ExcName → Option Value} {mg mb : Str → Option Value} {ls : List Str} {fa : Addr} {cd : Value} {h₀ : Heap} {L : Addr} {sc : Scope} {s : Shared} {Q : Flow → Shared → Prop} {E : Value → Shared → Prop} {fb : List Stmt} {letters x : Str} {o : List Int} {us : List Value} {ad r : Addr} {nO : Nat} {oL oW : Obj} {tl tx tW tf tr1 tr2 tr3 : Tok} {m : Str → Option Value}
    (hsc : (partsOf 25).2.2 = sc) (k1 : Below callerA h₀ [] h₀) (k3 : (KK w.params).In h₀) (k5 : Top vw ls mean mg mb h₀) (hE : PassesOwn (model P w) (lawA sc L fa cd) (lawE sc L fa cd) E) (hfb : bodyAt (partsOf 25).2.1 8 = fb) (X : LF letters o x) (hI : IntsAre us o) (hr : IsRange s.heap r 0 6 1 tr1 tr2 tr3) (hG : ∀ y ∈ s.gens, y.bare = true)
    (dL : oL.data = .cell (some (.str letters tl))) (dW : oW.data = .cell (some (.str (Str.ofString "") tW)))
    (F : Fr h₀ L s.heap m) (N : News h₀ L s.heap [(ad, W.listOf us.toArray nO), (L + 1, oL), (L + 2, oW)]) (e1 : m nOrder = some (.ref ad)) (e2 : m nWord = some (.str x tx)) (e3 : m nFalls = some (.int 0 tf))
    (done : ∀ h tk G m' oW tW, (∀ y ∈ G, y.bare = true) → Fr h₀ L h m' → News h₀ L h [(ad, W.listOf us.toArray nO), (L + 1, oL), (L + 2, oW)] → oW.data = .cell (some (.str (wovS x 6) tW)) → m' nWord = some (.str x tx) → Q .next { s with heap := h, toks := tk, gens := G }) :
    RgSrc P w (lawA sc L fa cd) h₀ (lawE sc L fa cd) nK fb Q E (.ref r) s := by
  refine ⟨r, tr1, tr2, tr3, 6, _, m, J1 L ad nO us oL o x tx, rfl, hr, by decide, hG, F, N, ⟨oW, tW, tf, rfl, dW, e1, e2, e3⟩, ?_, ?_⟩
  · rintro i ti m' nw h tk G I oI hi ⟨oW', tW', tf', rfl, dW', f1, f2, f3⟩ hG' hnI F' N'
    rw [pin5 (m := fun z => if z = nK then some (.int (i : Nat) ti) else m' z) (a := nK) (b := nOrder) (c := nWord) (d := nFalls) (e := nFalls) (va := .int (i : Nat) ti) (vb := .ref ad) (vc := .str x tx) (vd := .int (fallI o i) tf') (ve := .int (fallI o i) tf') (if_pos rfl)
      (by show (if nOrder = nK then _ else m' nOrder) = _; rw [if_neg (by decide)]; exact f1) (by show (if nWord = nK then _ else m' nWord) = _; rw [if_neg (by decide)]; exact f2)
      (by show (if nFalls = nK then _ else m' nFalls) = _; rw [if_neg (by decide)]; exact f3) (by show (if nFalls = nK then _ else m' nFalls) = _; rw [if_neg (by decide)]; exact f3)] at F'
    exact turn1 (s := { s with heap := h, toks := tk, gens := G }) hsc k1 k3 k5 hE hfb X hi hI hG' dL dW' (hnI _ (.head _)) (hnI _ (.tail _ (.head _))) (hnI _ (.tail _ (.tail _ (.head _)))) F' N'
  · rintro h tk G m' nw hG' F' N' ⟨oW', tW', tf', rfl, dW', f1, f2, f3⟩
    exact done h tk G m' oW' tW' hG' F' N' dW' f2
theorem loop2_src {w : World} {mean : ExcName → Option Value} {mg mb : Str → Option Value} {ls : List Str} {fa : Addr} {cd : Value} {h₀ : Heap} {L : Addr} {sc : Scope} {s : Shared} {Q : Flow → Shared → Prop} {E : Value → Shared → Prop} {fb : List Stmt} {x y : Str} {r : Addr} {oL oW : Obj} {tx tW tb tr1 tr2 tr3 : Tok} {m : Str → Option Value}
    (hsc : (partsOf 25).2.2 = sc) (k1 : Below callerA h₀ [] h₀) (k3 : (KK w.params).In h₀) (k5 : Top vw ls mean mg mb h₀) (hE : PassesOwn (model P w) (lawA sc L fa cd) (lawE sc L fa cd) E) (hfb : bodyAt (partsOf 25).2.1 10 = fb) (hlen : ∀ i, i < 6 → (unwS y i).length = 6 - i) (hr : IsRange s.heap r 0 6 1 tr1 tr2 tr3) (hG : ∀ y ∈ s.gens, y.bare = true)
    (dW : oW.data = .cell (some (.str y tW)))
    (F : Fr h₀ L s.heap m) (N : News h₀ L s.heap [(L + 1, oL), (L + 2, oW)]) (e2 : m nWord = some (.str x tx)) (e3 : m nBack = some (.str (Str.ofString "") tb))
    (done : ∀ h tk G m' oW tb, (∀ y ∈ G, y.bare = true) → Fr h₀ L h m' → News h₀ L h [(L + 1, oL), (L + 2, oW)] → m' nWord = some (.str x tx) → m' nBack = some (.str (backS y 6) tb) → Q .next { s with heap := h, toks := tk, gens := G }) :
    RgSrc P w (lawA sc L fa cd) h₀ (lawE sc L fa cd) nK fb Q E (.ref r) s := by
  refine ⟨r, tr1, tr2, tr3, 6, _, m, J2 L oL x tx y, rfl, hr, by decide, hG, F, N, ⟨oW, tW, tb, rfl, dW, e2, e3⟩, ?_, ?_⟩
  · rintro i ti m' nw h tk G I oI hi ⟨oW', tW', tb', rfl, dW', f2, f3⟩ hG' hnI F' N'
    rw [pin5 (m := fun z => if z = nK then some (.int (i : Nat) ti) else m' z) (a := nK) (b := nWord) (c := nBack) (d := nBack) (e := nBack) (va := .int (i : Nat) ti) (vb := .str x tx) (vc := .str (backS y i) tb') (vd := .str (backS y i) tb') (ve := .str (backS y i) tb') (if_pos rfl)
      (by show (if nWord = nK then _ else m' nWord) = _; rw [if_neg (by decide)]; exact f2)
      (by show (if nBack = nK then _ else m' nBack) = _; rw [if_neg (by decide)]; exact f3) (by show (if nBack = nK then _ else m' nBack) = _; rw [if_neg (by decide)]; exact f3) (by show (if nBack = nK then _ else m' nBack) = _; rw [if_neg (by decide)]; exact f3)] at F'
    exact turn2 (s := { s with heap := h, toks := tk, gens := G }) (u := fun z => if z = nBack then some (.str (backS y i) tb') else if z = nBack then some (.str (backS y i) tb') else (if z = nK then some (.int (i : Nat) ti) else m' z)) hsc k1 k3 k5 hE hfb hi (hlen i hi) hG' dW' (hnI _ (.head _)) (hnI _ (.tail _ (.head _))) F' N'
  · rintro h tk G m' nw hG' F' N' ⟨oW', tW', tb', rfl, dW', f2, f3⟩
    exact done h tk G m' oW' tb' hG' F' N' f2 f3

end Mine
end
theorem Mine.rs56 : True := by k_with_none; w_top off; trivial
section
open PySem PySem.W PyProof.Rows PySem.Calls PyProof.V PySem.Spec
set_option maxRecDepth 100000
set_option maxHeartbeats 8000000
namespace Mine
section
variable {prog : Program} {w : World} {A : Around} {E : Value → Shared → Prop} {s : Shared} {h₀ : Heap} {L : Addr} {m : Str → Option Value} {env : Env}
theorem strs_snoc {t : Tok} {c : Str} : ∀ {vs : List Value} {ns : List Str}, StrsAre vs ns → StrsAre (vs ++ [.str c t]) (ns ++ [c])
  | _, _, .nil => .cons c t .nil
  | _, _, .cons z u r => .cons z u (strs_snoc r)
noncomputable def CsEnd (h₀ : Heap) (L : Addr) (m : Str → Option Value) (s : Shared) (led : List (Addr × Obj)) (c : Str) (v : Value) (s₂ : Shared) : Prop := ∃ t h' tk', v = .str c t ∧ s₂ = { s with heap := h', toks := tk' } ∧ Fr h₀ L h' m ∧ News h₀ L h' led
/-- the texts of a list's ints, one turn for each -/
theorem comp_texts {elt : PySem.Expr} {x : Str} {scope : Scope} {cl : List (Str × Addr)} {S : List (Addr × Obj) → Prop} {Fin : List Value → List (Addr × Obj) → Prop} {news : List (Addr × Obj)} {vs : List Value} {ns : List Int} (g : Int → Str) (hi : IntsAre vs ns) (hS : S news)
    (turn : ∀ n u I oI C oC D m₂ ys h tk (E' : Value → Shared → Prop), n ∈ ns → LCg.NsObj oC m₂ → m₂ x = some (.int n u) → Fr h₀ L h m → News h₀ L h ((I, oI) :: (C, oC) :: (D, LCg.lst ys) :: news) →
      wpAny (model prog w) A (eval elt (compEnvC scope cl C env)) (CsEnd h₀ L m s ((I, oI) :: (C, oC) :: (D, LCg.lst ys) :: news) (g n)) E' { s with heap := h, toks := tk })
    (fin : ∀ ys, StrsAre ys (ns.map g) → Fin ys news) : LCg.CompRest prog w A h₀ L m env elt x scope cl s S (fun i v => vs.toArray[i]? = some v) Fin vs.toArray.size 0 [] news := by
  have hl := IntsAre.length hi
  have key : ∀ (j i : Nat) (ys : List Value), i + j = ns.length → StrsAre ys ((ns.take i).map g) → LCg.CompRest prog w A h₀ L m env elt x scope cl s S (fun i v => vs.toArray[i]? = some v) Fin j i ys news := by
    intro j
    induction j with
    | zero =>
      intro i ys hi hy
      rw [List.take_of_length_le (by omega)] at hy
      exact LCg.CompRest.zero (fin ys hy)
    | succ j ih =>
      intro i ys hij hy
      refine LCg.CompRest.succ ?_
      intro v I oI C oC D m₂ h tk E' hv hC hx F N off ne
      obtain ⟨n, u, rfl, hn⟩ := IntsAre.at hi i v (by simpa using hv)
      refine wpAny_mono (turn n u I oI C oC D m₂ ys h tk E' (List.mem_of_getElem? hn) hC hx F N) (fun y s₂ hq => ?_) fun _ _ e => e
      obtain ⟨t, h', tk', rfl, rfl, F', N'⟩ := hq
      refine ⟨h', tk', news, rfl, F', N', off, hS, ih (i + 1) _ (by omega) ?_⟩
      rw [List.take_add_one, hn]
      simpa using strs_snoc hy
  have e : vs.toArray.size = ns.length := by rw [List.size_toArray]; exact hl
  rw [e]
  exact key _ 0 [] (by omega) .nil
theorem menu3 {value slice : PySem.Expr} {T : Addr} {a b c : Str} {ta tb tc u : Tok} {k : Int} {Q : Value → Shared → Prop} (ht : IsTup s.heap T [Value.str a ta, .str b tb, .str c tc].toArray) (h0 : 0 ≤ k) (h3 : k < 3)
    (h : ∀ x t, (x = a ∨ x = b ∨ x = c) → Q (.str x t) s)
    (hs : subscripted slice false (.ref T) (.int k u) = operate [.ref T, .int k u] (getItem (.ref T) (.int k u)) := by with_unfolding_all rfl) :
    wpAny (model prog w) A (subscriptTail value slice (.ref T) (.int k u)) Q E s := by
  have : k = 0 ∨ k = 1 ∨ k = 2 := by omega
  rcases this with rfl | rfl | rfl
  · exact item_tupleT ht (by decide) (by decide) rfl rfl (h _ _ (.inl rfl)) hs
  · exact item_tupleT ht (by decide) (by decide) rfl rfl (h _ _ (.inr (.inl rfl))) hs
  · exact item_tupleT ht (by decide) (by decide) rfl rfl (h _ _ (.inr (.inr rfl))) hs
theorem ones_sum : ∀ o : List Int, (o.map fun _ => 1).sum = o.length
  | [] => rfl
  | a :: o => by rw [List.map_cons, List.sum_cons, ones_sum o, List.length_cons]; omega
theorem join_letters {D : Addr} {ys : List Value} {o : List Int} {letters : Str} {t : Tok} {Q : Value → Shared → Prop} (hl : s.heap.IsList D ys.toArray) (hi : StrsAre ys (o.map (Txt.item letters))) (ho : o.length = 6)
    (h : ∀ t' k, Q (.str (Txt.join (Str.ofString "") (o.map (Txt.item letters))) t') { s with toks := k }) : wpAny (model prog w) A (call (.builtin "str.join") [.str (Str.ofString "") t, .ref D]) Q E s := by
  refine join_listW hl hi (by decide +kernel) ?_ h
  have e : ((o.map (Txt.item letters)).map (·.length)) = o.map fun _ => 1 := by rw [List.map_map]; rfl
  rw [e, List.length_map, ho]
  have := ones_sum o
  omega
end
theorem reads_eq {y x : Str} (h : Reads y x.cps.toList) : rd (KStt.codes y) = x := PySem.Str.ext' (by
  have := h.1
  exact Array.toList_inj.mp this)
theorem read_ctk {w : World} {mean : ExcName → Option Value} {mg mb : Str → Option Value} {ls : List Str} {news : List (Addr × Obj)} {dp un : Nat} {gd : Option (List Code)} {cn : Str} {cs : Scope} {a : Addr} {ccd : Value} {cl : List (Str × Addr)} {outer : List Env} {A₀ : Around} {base h₀ : Heap} {L : Addr} {m : Str → Option Value} {s : Shared} {Q E : Value → Shared → Prop} {y x : Str} {tx : Tok}
    (k1 : Below A₀ base outer h₀) (k2 : Fr h₀ L s.heap m) (k3 : (KK w.params).In h₀) (k4 : News h₀ L s.heap news) (k5 : Top vw ls mean mg mb h₀) (kK : cs.kind = .function) (kd : dp + 10 < recursionLimit) (ku : un + 100 < cLine)
    (hR : Reads y x.cps.toList) (hy : y.length ≤ 12) (kT : IntTab P w h₀ 75 b3D)
    (ret : ∀ (t : Tok) (h' : Heap) (tk' : Nat), Fr h₀ L h' m → News h₀ L h' news → Q (.str x t) { s with heap := h', toks := tk' }) :
    wpAny (model P w) (ktrTop dp un gd cn cs L a ccd cl outer) (call (.ref 160) [.str y tx]) Q E s := by
  refine read_ct k1 k2 k3 k4 k5 kK kd ku (by omega) hR.2 kT ?_
  rw [reads_eq hR]
  exact ret
theorem order_ctk {w : World} {mean : ExcName → Option Value} {mg mb : Str → Option Value} {ls : List Str} {news : List (Addr × Obj)} {dp un : Nat} {gd : Option (List Code)} {cn : Str} {cs : Scope} {a : Addr} {ccd : Value} {cl : List (Str × Addr)} {outer : List Env} {A₀ : Around} {base h₀ : Heap} {L : Addr} {m : Str → Option Value} {s : Shared} {Q E : Value → Shared → Prop} {l : Addr} {ln : Nat} {d0 d1 d2 d3 d4 d5 : Int} {t0 t1 t2 t3 t4 t5 : Tok}
    (k1 : Below A₀ base outer h₀) (k2 : Fr h₀ L s.heap m) (k3 : (KK w.params).In h₀) (k4 : News h₀ L s.heap news) (k5 : Top vw ls mean mg mb h₀) (kK : cs.kind = .function) (kd : dp + 10 < recursionLimit) (ku : un + 100 < cLine)
    (hl : (l, W.listOf #[.int d0 t0, .int d1 t1, .int d2 t2, .int d3 t3, .int d4 t4, .int d5 t5] ln) ∈ news)
    (ret : ∀ (ad : Addr) (us : List Value) (o : List Int) (n : Nat) (h' : Heap) (tk' : Nat), IsOrder o → o.length = 6 → IntsAre us o → Fr h₀ L h' m → News h₀ L h' ((ad, W.listOf us.toArray n) :: news) → Q (.ref ad) { s with heap := h', toks := tk' }) :
    wpAny (model P w) (ktrTop dp un gd cn cs L a ccd cl outer) (call (.ref 132) [.ref l]) Q E s := by
  refine order_ct k1 k2 k3 k4 k5 kK kd ku hl ?_
  intro ad o0 o1 o2 o3 o4 o5 u0 u1 u2 u3 u4 u5 n h' tk' hO F N
  exact ret ad [.int o0 u0, .int o1 u1, .int o2 u2, .int o3 u3, .int o4 u4, .int o5 u5] [o0, o1, o2, o3, o4, o5] n h' tk' hO rfl (.cons _ _ (.cons _ _ (.cons _ _ (.cons _ _ (.cons _ _ (.cons _ _ .nil)))))) F N
end Mine
end
theorem Mine.rs57 : True := by k_with_none; w_top off; trivial
section
open PySem PySem.W PyProof.Rows PySem.Calls PyProof.V PySem.Spec
set_option maxRecDepth 100000
set_option maxHeartbeats 8000000
namespace Mine
theorem fillCtTp2 : (fun (_ : OpenLaw) (_ : Params → Frag) => True) PySem.Challenge.rw_wo0061_01 KK := by
  k_fill
  trivial
set_option maxHeartbeats 1500000
noncomputable def Hold9 (p : Prop) : Prop := p
theorem Hold9.out {p : Prop} (h : Hold9 p) : p := h

theorem news_sub3 {g h : Heap} {L : Addr} {led : List (Addr × Obj)} {a b c : Addr × Obj} (N : News g L h led) (h1 : a ∈ led) (h2 : b ∈ led) (h3 : c ∈ led) : News g L h [a, b, c] := sub3 (P := fun p => h.get? p.1 = some p.2 ∧ p.1 ≠ L ∧ g.get? p.1 = none) (N a h1) (N b h2) (N c h3)
theorem news_sub2 {g h : Heap} {L : Addr} {led : List (Addr × Obj)} {a b : Addr × Obj} (N : News g L h led) (h1 : a ∈ led) (h2 : b ∈ led) : News g L h [a, b] := fun p hp => news_sub3 N h1 h2 h2 p (by
  simp only [List.mem_cons, List.not_mem_nil, or_false] at hp ⊢
  rcases hp with rfl | rfl
  · exact .inl rfl
  · exact .inr (.inl rfl))
theorem back_eq {letters x : Str} {o : List Int} (X : LF letters o x) : (backS (wovS x 6) 6 == x) = true := by rw [X.back]; simp
theorem bne_self_no {x : Str} (h : (x != x) = true) : False := by simp at h

theorem lf_name {letters x : Str} {o : List Int} (_X : LF letters o x) : ∃ (l9 : Str) (o9 : List Int), l9 = letters ∧ o9 = o := ⟨_, _, rfl, rfl⟩

theorem fr_pinT {g h : Heap} {L : Addr} {m : Str → Option Value} (F : Fr g L h m) (a : Str) (v : Value) (e : m a = some v) : ∃ u : Str → Option Value, Fr g L h (fun z => if z = a then some v else u z) := by
  refine ⟨m, ?_⟩
  have : (fun z => if z = a then some v else m z) = m := by
    funext z
    by_cases h : z = a
    · subst h; simp [e]
    · simp [h]
  rw [this]; exact F

theorem law_walk {w : World} {mean : ExcName → Option Value} {mg mb : Str → Option Value} {ls : List Str} {fa : Addr} {cd : Value} {h₀ : Heap} {L : Addr} {sc : Scope} {s : Shared} {Q : Flow → Shared → Prop} {E : Value → Shared → Prop} {bd : List Stmt} {l : Addr} {us : List Value} {ns : List Int} {oL oW : Obj} {m : Str → Option Value}
    (hsc : (partsOf 25).2.2 = sc) (k1 : Below callerA h₀ [] h₀) (k3 : (KK w.params).In h₀) (k5 : Top vw ls mean mg mb h₀) (hE : PassesOwn (model P w) (lawA sc L fa cd) (lawE sc L fa cd) E) (hbd : (partsOf 25).2.1 = bd) (kT : IntTab P w h₀ 75 b3D) (hG : ∀ y ∈ s.gens, y.bare = true) (hl : h₀.IsList l us.toArray) (hi : IntsAre us ns) (hn : ns.length ≤ 63)
    (hLF : ∀ letters o, (letters = Str.ofString "abgkmp" ∨ letters = Str.ofString "filnst" ∨ letters = Str.ofString "hkmvwz") → IsOrder o → LF letters o (Txt.join (Str.ofString "") (o.map (Txt.item letters))) ∧ ∀ c ∈ (Txt.join (Str.ofString "") (o.map (Txt.item letters))).cps.toList, c ∈ goodL)
    (hm : m (Str.ofString "script") = some (.ref l)) (dL : oL.data = .cell none) (dW : oW.data = .cell none)
    (F : Fr h₀ L s.heap m) (N : News h₀ L s.heap [(L + 2, oW), (L + 1, oL)])
    (ret : ∀ h' tk G m' nw, (∀ y ∈ G, y.bare = true) → Fr h₀ L h' m' → News h₀ L h' nw → Q (.ret (.bool true)) { s with heap := h', toks := tk, gens := G }) :
    wpAny (model P w) (lawA sc L fa cd) (execs bd (lawE sc L fa cd)) Q E s := by
  k_with_none
  (k_with "subscriptTail" => (k_here; (with_reducible show wpAny _ _ (subscriptTail (PySem.Expr.Tuple _ _ _) _ (Value.ref _) (Value.int _ _)) _ _ _); k_dflt (refine' menu3 ?t ?a ?b ?_; (case t => exact News.isTup (by k_asm) (by k_mem)); (case a => exact Int.fmod_nonneg_of_pos _ (by decide)); (case b => exact Int.fmod_lt_of_pos _ (by decide)); k_whole); intro x'zz t'zz hx'zz))
  (k_with "eval ListComp" => (k_here; refine Hold9.out ?_))
  (k_with "call builtin:str.join" => (k_here; k_dflt (refine' join_letters ?l ?i ?o ?_; (case l => exact News.isList (by k_asm) (by k_mem)); (case i => assumption); (case o => assumption); k_whole); intro t'zz k'zz))
  (k_with "exec For Name Call cons nil" => (k_here; k_dflt (refine For_rg (by k_asm) (by rfl) (by rfl) (by rfl) ?_ (hE := by assumption))))
  (k_with "call ref" => (k_here; k_dflt (refine' drawn_ct ?k1 ?k2 ?k3 ?k4 ?k5 ?kK ?kd ?ku ?hl ?hi ?hn ?_; (case k1 => k_asm); (case k2 => k_asm); (case k3 => k_asm); (case k4 => k_asm); (case k5 => k_asm); (case kK => first | exact rfl | assumption); (case kd => ktr_room); (case ku => ktr_units); (case hl => assumption); (case hi => assumption); (case hn => omega); k_whole); intro adD'zz d0'zz d1'zz d2'zz d3'zz d4'zz d5'zz t0'zz t1'zz t2'zz t3'zz t4'zz t5'zz h'zz tk'zz F'zz N'zz; (try k_sweep); (try dsimp only); (try k_fold)))
  (k_with "call ref" => (k_here; k_dflt (refine' order_ctk ?k1 ?k2 ?k3 ?k4 ?k5 ?kK ?kd ?ku ?hl ?_; (case k1 => k_asm); (case k2 => k_asm); (case k3 => k_asm); (case k4 => k_asm); (case k5 => k_asm); (case kK => first | exact rfl | assumption); (case kd => ktr_room); (case ku => ktr_units); (case hl => k_mem); k_whole); intro adO'zz us'zz o'zz nO'zz h'zz tk'zz hO'zz ho'zz hI'zz F'zz N'zz; (try k_sweep); (try dsimp only); (try k_fold)))
  (k_with "call ref" => (k_here; k_dflt (refine' typed_ct ?k1 ?k2 ?k3 ?k4 ?k5 ?kK ?kd ?ku ?hx ?hg ?hl ?_; (case k1 => k_asm); (case k2 => k_asm); (case k3 => k_asm); (case k4 => k_asm); (case k5 => k_asm); (case kK => first | exact rfl | assumption); (case kd => ktr_room); (case ku => ktr_units); (case hx => assumption); (case hg => assumption); (case hl => k_mem); k_whole); intro y'zz t'zz h'zz tk'zz hR'zz hy'zz F'zz N'zz; (try k_sweep); (try dsimp only); (try k_fold)))
  (k_with "call ref" => (k_here; k_dflt (refine' read_ctk ?k1 ?k2 ?k3 ?k4 ?k5 ?kK ?kd ?ku ?hR ?hy ?kT ?_; (case k1 => k_asm); (case k2 => k_asm); (case k3 => k_asm); (case k4 => k_asm); (case k5 => k_asm); (case kK => first | exact rfl | assumption); (case kd => ktr_room); (case ku => ktr_units); (case hR => assumption); (case hy => assumption); (case kT => assumption); k_whole); intro t'zz h'zz tk'zz F'zz N'zz; (try k_sweep); (try dsimp only); (try k_fold)))
  subst hsc hbd
  have hkindL : (partsOf 25).2.2.kind = ScopeKind.function := by kernel_rfl
  obtain ⟨u, F⟩ := fr_pinT F (Str.ofString "script") (.ref l) hm
  k_steps
  (rename News _ _ _ (_ :: _) => N9)
  have a1 := news_ne N9 (.tail _ (.head _)) (.tail _ (.tail _ (.tail _ (.head _)))) (by rw [dW]; exact nofun)
  have a2 := news_ne N9 (.tail _ (.head _)) (.tail _ (.tail _ (.tail _ (.tail _ (.head _))))) (by rw [dL]; exact nofun)
  have a3 := news_ne N9 (.tail _ (.tail _ (.head _))) (.tail _ (.tail _ (.tail _ (.head _)))) (by rw [dW]; exact nofun)
  have a4 := news_ne N9 (.tail _ (.tail _ (.head _))) (.tail _ (.tail _ (.tail _ (.tail _ (.head _))))) (by rw [dL]; exact nofun)
  (rename IsOrder _ => hO)
  (rename _ ∨ _ ∨ _ => hle)
  obtain ⟨X, hxg⟩ := hLF _ _ hle hO
  obtain ⟨lt9, o9, hl9, ho9⟩ := lf_name X
  subst hl9 ho9
  have hlt6 := X.hlet
  have hor := X.hor
  have hx6 := X.hx
  (rename IntsAre _ _ => hIo)
  k_steps
  unfold Hold9
  k_dflt (refine LCg.ListComp_U (F₀ := by k_asm) (by with_unfolding_all rfl) (by decide) (by rfl) (by decide) (by rfl) ?_)
  walk1
  k_dflt (refine LCg.CompSrc.ledger (by rfl) (by k_asm) (by k_asm) (by k_mem) (by rw [List.size_toArray, IntsAre.length hIo, PySem.sizeLine_eq]; omega) (fun gg => comp_texts (Txt.item lt9) hIo (.inr ⟨_, by k_mem, rfl, _, rfl⟩) ?turn ?fin))
  case turn =>
    intro n' u' I' oI' C' oC' D' m₂' ys' h' tk' E' hn' hC' hx1' F' N'
    have hb := hor n' hn'
    k_steps
    exact ⟨_, _, _, rfl, rfl, by assumption, by assumption⟩
  case fin =>
    intro ys' hys'
    k_steps
    · exact (bne_self_no (by assumption)).elim
    · (rename News _ _ _ (_ :: _) => N9)
      k_dflt (refine loop1_src (o := o9) (letters := lt9) rfl k1 k3 k5 hE rfl X hIo (by assumption) (by assumption) (by assumption) (by assumption) (by k_asm) (news_sub3 N9 (by k_mem) (by k_mem) (by k_mem)) (by rfl) (by rfl) (by rfl) ?done1)
      case done1 =>
        intro h3' tk3' G3' m3' oW3' tW3' hG3' F3' N3' dW3' e3'
        have N4' := news_sub2 N3' (.tail _ (.head _)) (.tail _ (.tail _ (.head _)))
        obtain ⟨u3', F4'⟩ := fr_pinT F3' nWord _ e3'
        clear F3' N3' e3'
        k_steps
        k_dflt (refine loop2_src (y := wovS _ 6) rfl k1 k3 k5 hE rfl X.ulen (by assumption) (by assumption) dW3' (by k_asm) (by k_asm) (by rfl) (by rfl) ?done2)
        case done2 =>
          intro h5' tk5' G5' m5' oW5' tb5' hG5' F5' N5' e5' f5'
          rw [pin5 (a := nBack) (b := nWord) (c := nWord) (d := nWord) (e := nWord) f5' e5' e5' e5' e5'] at F5'
          have F6' : Fr h₀ L h5' _ := F5'
          clear F5'
          k_steps
          rw [back_eq X]
          exact ret _ _ _ _ _ hG5' F6' N5'

end Mine
end
theorem Mine.rs58 : True := by k_with_none; w_top off; trivial
section
open PySem PySem.W PyProof.Rows PySem.Calls PyProof.V PySem.Spec
set_option maxRecDepth 100000
set_option maxHeartbeats 8000000
namespace Mine
noncomputable section
abbrev ite' {α : Type} (b : Bool) (t e : α) : α := @Bool.rec (fun _ => α) e t b
noncomputable def cmpK (a c : Nat) : Nat := @Bool.rec (fun _ => Nat) (@Bool.rec (fun _ => Nat) 1 0 (Nat.ble (Nat.succ a) c)) 2 (Nat.ble (Nat.succ c) a)
noncomputable def app (l r : List Nat) : List Nat := @List.rec Nat (fun _ => List Nat) r (fun a _ ih => a :: ih) l
noncomputable def rot (p : Nat → Bool) (buf l : List Nat) : List Nat := @List.rec Nat (fun _ => List Nat → List Nat) (fun _ => []) (fun c _ ih buf => @Bool.rec (fun _ => List Nat) (ih (app buf [c])) (c :: app buf (ih [])) (p c)) l buf
noncomputable def lastN (l : List Nat) (d : Nat) : Nat := @List.rec Nat (fun _ => Nat → Nat) (fun d => d) (fun a _ ih _ => ih a) l d
noncomputable def unrot (p : Nat → Bool) (h : Nat) (buf l : List Nat) : List Nat := @List.rec Nat (fun _ => Nat → List Nat → List Nat) (fun h buf => app buf [h]) (fun c _ ih h buf => @Bool.rec (fun _ => List Nat) (ih h (app buf [c])) (app buf (h :: ih c [])) (p c)) l h buf
noncomputable def rotL (l : List Nat) (a : Nat) : List Nat := rot (fun c => Nat.beq (cmpK a c) (cmpK a (lastN l 0))) [] l
noncomputable def unweaveL (l : List Nat) (a : Nat) : List Nat := @List.rec Nat (fun _ => List Nat) [] (fun h r _ => unrot (fun c => Nat.beq (cmpK a c) (cmpK a h)) h [] r) l
noncomputable def hasN (a : Nat) (l : List Nat) : Bool := @List.rec Nat (fun _ => Bool) false (fun x _ ih => @Bool.rec (fun _ => Bool) ih true (Nat.beq x a)) l
noncomputable def aheadL (c d : Nat) (l : List Nat) : Bool := @List.rec Nat (fun _ => Bool) false (fun x r ih => @Bool.rec (fun _ => Bool) ih (hasN d r) (Nat.beq x c)) l
noncomputable def cnt1 (w : List Nat) (c : Nat) (l : List Nat) (k : Nat) : Nat := @List.rec Nat (fun _ => Nat → Nat) (fun k => k) (fun d _ ih k => @Bool.rec (fun _ => Nat) (ih k) (@Bool.rec (fun _ => Nat) (ih k) (ih (Nat.succ k)) (aheadL c d w)) (Nat.ble (Nat.succ d) c)) l k
noncomputable def cnt2 (w l : List Nat) (k : Nat) : Nat := @List.rec Nat (fun _ => Nat → Nat) (fun k => k) (fun c _ ih k => ih (cnt1 w c w k)) l k
noncomputable def idxN (a : Nat) (l : List Nat) (k : Nat) : Nat := @List.rec Nat (fun _ => Nat → Nat) (fun k => k) (fun x _ ih k => @Bool.rec (fun _ => Nat) (ih (Nat.succ k)) k (Nat.beq x a)) l k
noncomputable def listEq (l r : List Nat) : Bool := @List.rec Nat (fun _ => List Nat → Bool) (fun r => @List.rec Nat (fun _ => Bool) true (fun _ _ _ => false) r) (fun a _ ih r => @List.rec Nat (fun _ => Bool) false (fun b r' _ => @Bool.rec (fun _ => Bool) false (ih r') (Nat.beq a b)) r) l r
noncomputable def bEq (a b : Bool) : Bool := @Bool.rec (fun _ => Bool) (@Bool.rec (fun _ => Bool) true false b) b a
noncomputable def near1 (q w : List Nat) (c d v : Nat) : Bool := @Bool.rec (fun _ => Bool) true (@Bool.rec (fun _ => Bool) true (@Bool.rec (fun _ => Bool) false (@Bool.rec (fun _ => Bool) false (bEq (Nat.ble (Nat.succ (idxN d w 0)) (idxN c w 0)) (Nat.ble (Nat.succ (idxN (Nat.succ v) q 0)) (idxN v q 0))) (hasN d w)) (hasN c w)) (hasN (Nat.succ v) q)) (hasN v q)
noncomputable def getN (l : List Nat) (i : Nat) : Nat := @List.rec Nat (fun _ => Nat → Nat) (fun _ => 0) (fun a _ ih i => @Nat.rec (fun _ => Nat) a (fun j _ => ih j) i) l i
noncomputable def nearOK (al q w : List Nat) (vs : List Nat) : Bool := @List.rec Nat (fun _ => Bool) true (fun v _ ih => @Bool.rec (fun _ => Bool) false ih (near1 q w (getN al v) (getN al (Nat.succ v)) v)) vs
noncomputable def stepF (q : List Nat) (v f k : Nat) : Nat := @List.rec Nat (fun _ => Nat) 0 (fun a l _ => @Bool.rec (fun _ => Nat) f (Nat.add f k) (Nat.ble (Nat.succ v) (lastN l a))) q
noncomputable def dropV (l : List Nat) (v : Nat) : List Nat := @List.rec Nat (fun _ => List Nat) [] (fun a r ih => @Bool.rec (fun _ => List Nat) (a :: ih) r (Nat.beq a v)) l
/-- a number of the list, by its value -/
noncomputable def forceN (al : List Nat) (n : Nat) (k : Nat → Bool) : Bool := @List.rec Nat (fun _ => Bool) false (fun a _ ih => @Bool.rec (fun _ => Bool) ih (k a) (Nat.beq n a)) al
noncomputable def forceL (al l : List Nat) (k : List Nat → Bool) : Bool := @List.rec Nat (fun _ => (List Nat → Bool) → Bool) (fun k => k []) (fun a _ ih k => forceN al a fun a' => ih fun l' => k (a' :: l')) l k
/-- all rows that go on from here -/
noncomputable def goAll (al : List Nat) (n : Nat) (pool q w : List Nat) (f k : Nat) : Bool :=
  @Nat.rec (fun _ => List Nat → List Nat → List Nat → Nat → Nat → Bool) (fun _ _ _ _ _ => true) (fun n ih pool q w f k =>
    @List.rec Nat (fun _ => Bool) true (fun v _ rest => @Bool.rec (fun _ => Bool) false (
      forceN al (getN al v) fun c => forceL al (rotL w c) fun r => forceL al (app r [c]) fun w' => forceL [0, 1, 2, 3, 4, 5] (app q [v]) fun q' => forceN [0, 1, 2, 3, 4, 5, 6, 7, 8, 9, 10, 11, 12, 13, 14, 15] (stepF q v f k) fun f' => forceN [1, 2, 3, 4, 5, 6] (Nat.succ k) fun k' =>
        @Bool.rec (fun _ => Bool) false (@Bool.rec (fun _ => Bool) false (@Bool.rec (fun _ => Bool) false (forceL [0, 1, 2, 3, 4, 5] (dropV pool v) fun pool' => ih pool' q' w' f' k') (listEq (unweaveL r c) w)) (nearOK al q' w' [0, 1, 2, 3, 4])) (Nat.beq (cnt2 w' w' 0) f')) rest) pool) n pool q w f k
end
end Mine
end
theorem Mine.rs59 : True := by k_with_none; w_top off; trivial
section
open PySem PySem.W PyProof.Rows PySem.Calls PyProof.V PySem.Spec
set_option maxRecDepth 100000
set_option maxHeartbeats 8000000
namespace Mine
theorem app_eq : ∀ l r : List Nat, app l r = l ++ r
  | [], _ => rfl
  | a :: l, r => congrArg (a :: ·) (app_eq l r)
theorem ble_t {a b : Nat} (h : a < b) : Nat.ble (Nat.succ a) b = true := Nat.ble_eq.mpr h
theorem ble_f {a b : Nat} (h : ¬ a < b) : Nat.ble (Nat.succ a) b = false := by
  cases q : Nat.ble (Nat.succ a) b
  · rfl
  · exact absurd (Nat.ble_eq.mp q) h
theorem one_lt (a b : Nat) : ([a] < [b]) ↔ a < b := by
  rw [List.cons_lt_cons_iff]
  simp
theorem cmpS_K (a c : Nat) : cmpS ⟨#[a]⟩ ⟨#[c]⟩ = (cmpK a c : Int) - 1 := by
  unfold cmpS cmpK
  rcases Nat.lt_trichotomy a c with h | h | h
  · have h' : ¬ c < a := by omega
    rw [ble_f h', ble_t h]
    have e1 : decide ([c] < [a]) = false := decide_eq_false (by rw [one_lt]; omega)
    have e2 : decide ([a] < [c]) = true := decide_eq_true (by rw [one_lt]; omega)
    show b2i (decide ([c] < [a])) - b2i (decide ([a] < [c])) = _
    rw [e1, e2]; rfl
  · subst h
    rw [ble_f (Nat.lt_irrefl a)]
    have e1 : decide ([a] < [a]) = false := decide_eq_false (by rw [one_lt]; omega)
    show b2i (decide ([a] < [a])) - b2i (decide ([a] < [a])) = _
    rw [e1]; rfl
  · have h' : ¬ a < c := by omega
    rw [ble_t h]
    have e1 : decide ([c] < [a]) = true := decide_eq_true (by rw [one_lt]; omega)
    have e2 : decide ([a] < [c]) = false := decide_eq_false (by rw [one_lt]; omega)
    show b2i (decide ([c] < [a])) - b2i (decide ([a] < [c])) = _
    rw [e1, e2]; rfl
theorem cmp_iff (a b c : Nat) : cmpS ⟨#[a]⟩ ⟨#[c]⟩ = cmpS ⟨#[a]⟩ ⟨#[b]⟩ ↔ Nat.beq (cmpK a c) (cmpK a b) = true := by
  rw [cmpS_K, cmpS_K, Nat.beq_eq]
  omega
theorem lastN_eq : ∀ (l : List Nat) (d : Nat), lastN l d = l.getD (l.length - 1) d
  | [], _ => rfl
  | [a], _ => rfl
  | a :: b :: l, d => by
    have h := lastN_eq (b :: l) a
    show lastN (b :: l) a = _
    rw [h]
    simp
theorem item_at {x : Str} {k : Int} {c : Nat} (h0 : 0 ≤ k) (h : x.cps.toList[k.toNat]? = some c) : Txt.item x k = ⟨#[c]⟩ := by
  have hlt : k.toNat < x.cps.toList.length := (List.getElem?_eq_some_iff.mp h).1
  have hl : x.length = x.cps.toList.length := by simp [Str.length]
  rw [PySem.W.item_meets ⟨h0, by omega⟩]
  rw [Array.getElem?_toList] at h
  rw [Array.getD_eq_getD_getElem?, h]
  rfl
theorem slice_mid {x : Str} {pre buf r : List Nat} {i j : Int} (h : x.cps.toList = pre ++ buf ++ r) (hi : i = pre.length) (hj : j = pre.length + buf.length) : (Txt.slice x (some i) (some j)).cps.toList = buf := by
  have hl : x.length = x.cps.toList.length := by simp [Str.length]
  have hl2 : x.length = pre.length + buf.length + r.length := by rw [hl, h, List.length_append, List.length_append]
  have e := slice_closesL (x := x) (i := i) (j := j) (by omega) (by omega) (by omega)
  rw [beq_iff_eq.mp e, h]
  have e1 : i.toNat = pre.length := by omega
  have e2 : (j - i).toNat = buf.length := by omega
  rw [e1, e2]
  simp
noncomputable def sizesF (p : Nat → Bool) : Nat → List Nat → List Int
  | _, [] => []
  | k, c :: l => if p c = true then ((k : Int) + 1) :: sizesF p 0 l else sizesF p (k + 1) l
theorem mk_fold {p : Nat → Bool} {m : Nat → Int} {last : Int} (hp : ∀ c, (m c = last) ↔ p c = true) : ∀ (l : List Nat) (st : List Int) (k : Nat), ((l.map m).foldl (mkStep last) (st, (k : Int))).1 = st ++ sizesF p k l
  | [], st, k => by simp [sizesF]
  | c :: l, st, k => by
    rw [List.map_cons, List.foldl_cons]
    have em : mkStep last (st, (k : Int)) (m c) = if m c = last then (st ++ [(k : Int) + 1], 0) else (st, (k : Int) + 1) := rfl
    rw [em]
    unfold sizesF
    by_cases h : m c = last
    · rw [if_pos h, if_pos ((hp c).mp h)]
      have e := mk_fold hp l (st ++ [(k : Int) + 1]) 0
      have e0 : ((0 : Nat) : Int) = 0 := rfl
      rw [e0] at e
      rw [e, List.append_assoc]
      rfl
    · rw [if_neg h, if_neg (fun q => h ((hp c).mpr q))]
      exact mk_fold hp l st (k + 1)
theorem wv_fold {p : Nat → Bool} (x : Str) : ∀ (l pre buf : List Nat) (st : Str), x.cps.toList = pre ++ buf ++ l → ((sizesF p buf.length l).foldl (wvStep x) (st, (pre.length : Int))).1.cps.toList = st.cps.toList ++ rot p buf l
  | [], _, _, st, _ => by simp [sizesF, rot]
  | c :: l, pre, buf, st, h => by
    unfold sizesF
    by_cases q : p c = true
    · rw [if_pos q, List.foldl_cons]
      have e : wvStep x (st, (pre.length : Int)) ((buf.length : Int) + 1) = (st ++ (⟨#[c]⟩ ++ ⟨buf.toArray⟩), ((pre ++ buf ++ [c]).length : Int)) := by
        unfold wvStep
        have e1 : Txt.item x ((pre.length : Int) + ((buf.length : Int) + 1) - 1) = ⟨#[c]⟩ := by
          refine item_at (by omega) ?_
          have : ((pre.length : Int) + ((buf.length : Int) + 1) - 1).toNat = (pre ++ buf).length := by rw [List.length_append]; omega
          rw [this, h, List.getElem?_append_right (Nat.le_refl _)]
          simp
        have e2 : Txt.slice x (some ((pre.length : Int) + ((buf.length : Int) + 1) - ((buf.length : Int) + 1))) (some ((pre.length : Int) + ((buf.length : Int) + 1) - 1)) = ⟨buf.toArray⟩ := by
          refine PySem.Str.ext' (Array.toList_inj.mp ?_)
          rw [slice_mid h (by omega) (by omega)]
        dsimp only
        rw [e1, e2]
        congr 1
        simp <;> omega
      rw [e]
      have ih := wv_fold (p := p) x l (pre ++ buf ++ [c]) [] (st ++ (⟨#[c]⟩ ++ ⟨buf.toArray⟩)) (by rw [h]; simp)
      have ih' : ((sizesF p 0 l).foldl (wvStep x) (st ++ (⟨#[c]⟩ ++ ⟨buf.toArray⟩), ((pre ++ buf ++ [c]).length : Int))).1.cps.toList = _ := ih
      rw [ih']
      have er : rot p buf (c :: l) = c :: app buf (rot p [] l) := by
        show @Bool.rec (fun _ => List Nat) _ _ (p c) = _
        rw [q]; rfl
      rw [er, app_eq]
      simp [PySem.Str.cps_append]
    · rw [if_neg q]
      have ih := wv_fold (p := p) x l pre (buf ++ [c]) st (by rw [h]; simp)
      rw [List.length_append] at ih
      have ih' : ((sizesF p (buf.length + 1) l).foldl (wvStep x) (st, (pre.length : Int))).1.cps.toList = _ := ih
      rw [ih']
      have er : rot p buf (c :: l) = rot p (app buf [c]) l := by
        show @Bool.rec (fun _ => List Nat) _ _ (p c) = _
        rw [Bool.not_eq_true] at q
        rw [q]; rfl
      rw [er, app_eq]
/-- weaving, on the lists -/
theorem weave_eq (l : List Nat) (a : Nat) : weaveS ⟨l.toArray⟩ ⟨#[a]⟩ = ⟨(app (rotL l a) [a]).toArray⟩ := by
  refine PySem.Str.ext' (Array.toList_inj.mp ?_)
  unfold weaveS
  rw [app_eq]
  generalize hlast : ((⟨l.toArray⟩ : Str).cps.toList.map (fun c => cmpS ⟨#[a]⟩ ⟨#[c]⟩)).getD (-1 + (((⟨l.toArray⟩ : Str).cps.toList.map (fun c => cmpS ⟨#[a]⟩ ⟨#[c]⟩)).length : Int)).toNat 0 = last
  rw [PySem.Str.cps_append, Array.toList_append]
  have e1 : ((⟨#[a]⟩ : Str).cps).toList = [a] := rfl
  rw [e1]
  show _ = rotL l a ++ [a]
  congr 1
  have e2 : ((⟨l.toArray⟩ : Str).cps.toList) = l := rfl
  rw [e2] at hlast ⊢
  cases l with
  | nil => rfl
  | cons h r =>
    have hp : ∀ c, (cmpS ⟨#[a]⟩ ⟨#[c]⟩ = last) ↔ (fun c => Nat.beq (cmpK a c) (cmpK a (lastN (h :: r) 0))) c = true := by
      intro c
      rw [← cmp_iff]
      have : last = cmpS ⟨#[a]⟩ ⟨#[lastN (h :: r) 0]⟩ := by
        rw [← hlast, lastN_eq]
        have e3 : (-1 + (((h :: r).map (fun c => cmpS ⟨#[a]⟩ ⟨#[c]⟩)).length : Int)).toNat = (h :: r).length - 1 := by
          rw [List.length_map, List.length_cons]; omega
        rw [e3, List.getD_eq_getElem?_getD, List.getElem?_map, List.getD_eq_getElem?_getD]
        have hlt : (h :: r).length - 1 < (h :: r).length := by simp
        rw [List.getElem?_eq_getElem hlt]
        rfl
      rw [this]
    have e4 := mk_fold hp (h :: r) [] 0
    have e0 : ((0 : Nat) : Int) = 0 := rfl
    rw [e0, List.nil_append] at e4
    rw [e4]
    have e5 := wv_fold (p := fun c => Nat.beq (cmpK a c) (cmpK a (lastN (h :: r) 0))) ⟨(h :: r).toArray⟩ (h :: r) [] [] (Str.ofString "") rfl
    have e6 : ((sizesF (fun c => Nat.beq (cmpK a c) (cmpK a (lastN (h :: r) 0))) 0 (h :: r)).foldl (wvStep ⟨(h :: r).toArray⟩) (Str.ofString "", 0)).1.cps.toList = _ := e5
    rw [e6]
    have e7 : (Str.ofString "").cps.toList = [] := by decide +kernel
    rw [e7]
    rfl
end Mine
end
theorem Mine.rs60 : True := by k_with_none; w_top off; trivial
section
open PySem PySem.W PyProof.Rows PySem.Calls PyProof.V PySem.Spec
set_option maxRecDepth 100000
set_option maxHeartbeats 8000000
namespace Mine
theorem item_last (l : List Nat) (a : Nat) : Txt.item ⟨(l ++ [a]).toArray⟩ (-1) = ⟨#[a]⟩ := by
  have hl : (⟨(l ++ [a]).toArray⟩ : Str).length = l.length + 1 := by simp [Str.length]
  have hs := seqIndex_neg (k := -1) (n := (⟨(l ++ [a]).toArray⟩ : Str).length) (by decide) (by omega)
  unfold Txt.item Txt.charAt
  rw [hs]
  have e : (-1 + ((⟨(l ++ [a]).toArray⟩ : Str).length : Int)).toNat = l.length := by omega
  rw [e]
  simp
theorem slice_init (l : List Nat) (a : Nat) : Txt.slice ⟨(l ++ [a]).toArray⟩ none (some (-1)) = ⟨l.toArray⟩ := by
  have hl : (⟨(l ++ [a]).toArray⟩ : Str).length = l.length + 1 := by simp [Str.length]
  have e := slice_closes_to_neg (x := ⟨(l ++ [a]).toArray⟩) (j := -1) (k := l.length) (by decide) (by omega) (by omega)
  rw [beq_iff_eq.mp e]
  congr 1
  have e1 : ((l.length : Int) - 0).toNat = l.length := by omega
  rw [e1]
  simp
noncomputable def sizesU (p : Nat → Bool) : Nat → List Nat → List Int
  | n, [] => [(n : Int)]
  | n, c :: l => if p c = true then (n : Int) :: sizesU p 1 l else sizesU p (n + 1) l
theorem un_fold {p : Nat → Bool} {m : Nat → Int} {first : Int} (hp : ∀ c, (m c = first) ↔ p c = true) : ∀ (l : List Nat) (zs : List Int) (n : Nat), (l.map m).foldl (unStep first) (zs ++ [(n : Int)]) = zs ++ sizesU p n l
  | [], zs, n => by simp [sizesU]
  | c :: l, zs, n => by
    rw [List.map_cons, List.foldl_cons]
    have em : unStep first (zs ++ [(n : Int)]) (m c) = if m c = first then (zs ++ [(n : Int)]) ++ [1] else zs ++ [((n + 1 : Nat) : Int)] := by
      unfold unStep
      by_cases h : m c = first
      · rw [if_pos h, if_pos h]
      · rw [if_neg h, if_neg h]
        have e : (-1 + ((zs ++ [(n : Int)]).length : Int)).toNat = zs.length := by rw [List.length_append, List.length_singleton]; omega
        have e2 : (zs ++ [(n : Int)]).length - 1 = zs.length := by rw [List.length_append, List.length_singleton]; omega
        rw [e, e2]
        simp
    rw [em]
    unfold sizesU
    by_cases h : m c = first
    · rw [if_pos h, if_pos ((hp c).mp h)]
      have ih := un_fold hp l (zs ++ [(n : Int)]) 1
      have e1 : ((1 : Nat) : Int) = 1 := rfl
      rw [e1] at ih
      rw [ih, List.append_assoc]
      rfl
    · rw [if_neg h, if_neg (fun q => h ((hp c).mpr q))]
      exact un_fold hp l zs (n + 1)
theorem uw_one {x : Str} {pre buf l : List Nat} {h : Nat} {st : Str} (e : x.cps.toList = pre ++ h :: buf ++ l) : uwStep x (st, (pre.length : Int)) ((buf.length + 1 : Nat) : Int) = (st ++ (⟨buf.toArray⟩ ++ ⟨#[h]⟩), ((pre ++ h :: buf).length : Int)) := by
  unfold uwStep
  have e1 : Txt.item x (pre.length : Int) = ⟨#[h]⟩ := by
    refine item_at (by omega) ?_
    rw [Int.toNat_natCast, e, List.append_assoc, List.getElem?_append_right (Nat.le_refl _)]
    simp
  have e2 : Txt.slice x (some ((pre.length : Int) + 1)) (some ((pre.length : Int) + ((buf.length + 1 : Nat) : Int))) = ⟨buf.toArray⟩ := by
    refine PySem.Str.ext' (Array.toList_inj.mp ?_)
    rw [slice_mid (pre := pre ++ [h]) (buf := buf) (r := l) (by rw [e]; simp) (by simp) (by simp <;> omega)]
  dsimp only
  rw [e1, e2]
  congr 1
  simp <;> omega
theorem uw_fold {p : Nat → Bool} (x : Str) : ∀ (l pre buf : List Nat) (h : Nat) (st : Str), x.cps.toList = pre ++ h :: buf ++ l → ((sizesU p (buf.length + 1) l).foldl (uwStep x) (st, (pre.length : Int))).1.cps.toList = st.cps.toList ++ unrot p h buf l
  | [], pre, buf, h, st, e => by
    unfold sizesU
    rw [List.foldl_cons, List.foldl_nil, uw_one e]
    show (st ++ (⟨buf.toArray⟩ ++ ⟨#[h]⟩)).cps.toList = _ ++ app buf [h]
    rw [app_eq]
    simp [PySem.Str.cps_append]
  | c :: l, pre, buf, h, st, e => by
    unfold sizesU
    by_cases q : p c = true
    · rw [if_pos q, List.foldl_cons, uw_one (l := c :: l) e]
      have ih := uw_fold (p := p) x l (pre ++ h :: buf) [] c (st ++ (⟨buf.toArray⟩ ++ ⟨#[h]⟩)) (by rw [e]; simp)
      have ih' : ((sizesU p 1 l).foldl (uwStep x) (st ++ (⟨buf.toArray⟩ ++ ⟨#[h]⟩), ((pre ++ h :: buf).length : Int))).1.cps.toList = _ := ih
      rw [ih']
      have er : unrot p h buf (c :: l) = app buf (h :: unrot p c [] l) := by
        show @Bool.rec (fun _ => List Nat) _ _ (p c) = _
        rw [q]; rfl
      rw [er, app_eq]
      simp [PySem.Str.cps_append]
    · rw [if_neg q]
      have ih := uw_fold (p := p) x l pre (buf ++ [c]) h st (by rw [e]; simp)
      rw [List.length_append] at ih
      have ih' : ((sizesU p (buf.length + 1 + 1) l).foldl (uwStep x) (st, (pre.length : Int))).1.cps.toList = _ := ih
      rw [ih']
      have er : unrot p h buf (c :: l) = unrot p h (app buf [c]) l := by
        show @Bool.rec (fun _ => List Nat) _ _ (p c) = _
        rw [Bool.not_eq_true] at q
        rw [q]; rfl
      rw [er, app_eq]
/-- unweaving, on the lists -/
theorem unweave_eq (l : List Nat) (a : Nat) : unweaveS ⟨(l ++ [a]).toArray⟩ = ⟨(unweaveL l a).toArray⟩ := by
  refine PySem.Str.ext' (Array.toList_inj.mp ?_)
  unfold unweaveS
  rw [slice_init, item_last]
  have e2 : ((⟨l.toArray⟩ : Str).cps.toList) = l := rfl
  rw [e2]
  cases l with
  | nil =>
    show (Str.ofString "").cps.toList = []
    decide +kernel
  | cons h r =>
    have hp : ∀ c, (cmpS ⟨#[a]⟩ ⟨#[c]⟩ = cmpS ⟨#[a]⟩ ⟨#[h]⟩) ↔ (fun c => Nat.beq (cmpK a c) (cmpK a h)) c = true := fun c => cmp_iff a h c
    have e4 := un_fold hp r [] 1
    have e5 := uw_fold (p := fun c => Nat.beq (cmpK a c) (cmpK a h)) ⟨(h :: r).toArray⟩ r [] [] h (Str.ofString "") rfl
    have e7 : (Str.ofString "").cps.toList = [] := by decide +kernel
    rw [e7] at e5
    have e8 : (((h :: r).map (fun c => cmpS ⟨#[a]⟩ ⟨#[c]⟩)).getD 0 0) = cmpS ⟨#[a]⟩ ⟨#[h]⟩ := rfl
    rw [e8]
    have e9 : ((h :: r).map (fun c => cmpS ⟨#[a]⟩ ⟨#[c]⟩)).foldl (unStep (cmpS ⟨#[a]⟩ ⟨#[h]⟩)) [] = sizesU (fun c => Nat.beq (cmpK a c) (cmpK a h)) 1 r := by
      rw [List.map_cons, List.foldl_cons]
      have : unStep (cmpS ⟨#[a]⟩ ⟨#[h]⟩) [] (cmpS ⟨#[a]⟩ ⟨#[h]⟩) = [] ++ [((1 : Nat) : Int)] := by
        unfold unStep
        rw [if_pos rfl]
        rfl
      rw [this, e4]
      rfl
    rw [e9]
    exact e5
end Mine
end
theorem Mine.rs61 : True := by k_with_none; w_top off; trivial
section
open PySem PySem.W PyProof.Rows PySem.Calls PyProof.V PySem.Spec
set_option maxRecDepth 100000
set_option maxHeartbeats 8000000
namespace Mine
theorem hasN_cons (a x : Nat) (l : List Nat) : hasN a (x :: l) = if x = a then true else hasN a l := by
  show @Bool.rec (fun _ => Bool) (hasN a l) true (Nat.beq x a) = _
  by_cases h : x = a
  · rw [if_pos h, Nat.beq_eq.mpr h]
  · have : Nat.beq x a = false := by
      cases q : Nat.beq x a
      · rfl
      · exact absurd (Nat.beq_eq.mp q) h
    rw [if_neg h, this]
theorem hasN_iff (a : Nat) : ∀ l : List Nat, hasN a l = true ↔ a ∈ l
  | [] => by
    show false = true ↔ _
    simp
  | x :: l => by
    rw [hasN_cons]
    by_cases h : x = a
    · rw [if_pos h]; simp [h]
    · rw [if_neg h, hasN_iff a l, List.mem_cons]
      exact ⟨.inr, fun q => q.elim (fun e => absurd e.symm h) id⟩
theorem ahead_cons (c d x : Nat) (l : List Nat) : aheadL c d (x :: l) = if x = c then hasN d l else aheadL c d l := by
  show @Bool.rec (fun _ => Bool) (aheadL c d l) (hasN d l) (Nat.beq x c) = _
  by_cases h : x = c
  · rw [if_pos h, Nat.beq_eq.mpr h]
  · have : Nat.beq x c = false := by
      cases q : Nat.beq x c
      · rfl
      · exact absurd (Nat.beq_eq.mp q) h
    rw [if_neg h, this]
theorem ahead_none (c d : Nat) : ∀ l : List Nat, (∀ k : Nat, l[k]? ≠ some c) → aheadL c d l = false
  | [], _ => rfl
  | x :: l, h => by
    rw [ahead_cons, if_neg (fun e => h 0 (by simp [e]))]
    exact ahead_none c d l fun k => by simpa using h (k + 1)
theorem ahead_at (c d : Nat) : ∀ (l : List Nat) (k : Nat), l[k]? = some c → (∀ j : Nat, j < k → l[j]? ≠ some c) → aheadL c d l = hasN d (l.drop (k + 1))
  | [], k, h, _ => by simp at h
  | x :: l, 0, h, _ => by
    have : x = c := by simpa using h
    rw [ahead_cons, if_pos this]; rfl
  | x :: l, k + 1, h, hn => by
    have h0 : x ≠ c := by simpa using hn 0 (Nat.zero_lt_succ _)
    rw [ahead_cons, if_neg h0, ahead_at c d l k (by simpa using h) (fun j hj => by simpa using hn (j + 1) (Nat.succ_lt_succ hj))]
    rfl
theorem getD_at {g : Str} {v : Nat} (h : v < g.length) : g.cps.toList[v]? = some (g.cps.getD v 0) := by
  have h' : v < g.cps.size := h
  rw [Array.getElem?_toList, Array.getElem?_eq_getElem h', Array.getD_eq_getD_getElem?, Array.getElem?_eq_getElem h']
  rfl
theorem at_lt {g : Str} {v c : Nat} (h : g.cps.toList[v]? = some c) : v < g.length := by
  have := (List.getElem?_eq_some_iff.mp h).1
  have e : g.length = g.cps.toList.length := by simp [Str.length]
  omega
theorem from_nat (n k : Nat) : fromIndex n (k : Int) = k := by
  unfold fromIndex
  rw [if_neg (by omega)]
  omega
/-- the dots' match, on the lists -/
theorem ell_eq (c d : Nat) (g : Str) : ellB c d g = aheadL c d g.cps.toList := by
  unfold ellB
  have e0 : fromIndex g.length (0 : Int) = 0 := from_nat g.length 0
  rcases StrLaws.find3_spec g c 0 with ⟨h, hn⟩ | ⟨k, h, _, hk, hc, hn⟩
  · rw [h, ahead_none]
    · rfl
    · intro v hv
      have hlt := at_lt hv
      rw [getD_at hlt] at hv
      exact hn v (by rw [e0]; omega) hlt (Option.some.inj hv)
  · rw [e0] at hn
    have hat : g.cps.toList[k]? = some c := by rw [getD_at hk, hc]
    rw [h, ahead_at c d _ k hat (fun j hj q => hn j (Nat.zero_le _) hj (Option.some.inj ((getD_at (Nat.lt_trans hj hk)).symm.trans q)))]
    have e1 : ((k : Int) + 1) = ((k + 1 : Nat) : Int) := by omega
    rw [e1]
    have e2 : decide (0 ≤ (k : Int)) = true := decide_eq_true (by omega)
    rw [e2, Bool.true_and]
    rcases StrLaws.find3_spec g d ((k + 1 : Nat) : Int) with ⟨h2, hn2⟩ | ⟨k2, h2, hlo, hk2, hd, _⟩
    · rw [from_nat] at hn2
      rw [h2]
      have : hasN d (g.cps.toList.drop (k + 1)) = false := by
        cases q : hasN d (g.cps.toList.drop (k + 1))
        · rfl
        · have hm := (hasN_iff d _).mp q
          obtain ⟨j, hj⟩ := List.getElem?_of_mem hm
          rw [List.getElem?_drop] at hj
          have hlt := at_lt hj
          rw [getD_at hlt] at hj
          exact absurd (Option.some.inj hj) (hn2 _ (by omega) hlt)
      rw [this]
      rfl
    · rw [from_nat] at hlo
      rw [h2]
      have : hasN d (g.cps.toList.drop (k + 1)) = true := by
        rw [hasN_iff]
        refine List.mem_of_getElem? (i := k2 - (k + 1)) ?_
        rw [List.getElem?_drop]
        have : k + 1 + (k2 - (k + 1)) = k2 := by omega
        rw [this, getD_at hk2, hd]
      rw [this]
      exact decide_eq_true (by omega)
theorem gt_eq (c d : Nat) : gtB c d = Nat.ble (Nat.succ d) c := by
  unfold gtB
  rw [cmpS_K]
  unfold cmpK
  by_cases h : d < c
  · rw [ble_t h]; rfl
  · rw [ble_f h]
    refine decide_eq_false ?_
    by_cases h2 : c < d
    · rw [ble_t h2]; decide
    · rw [ble_f h2]; decide
theorem cnt1_eq (w : List Nat) (V : Nat → Nat → Bool) (hV : ∀ c d, V c d = aheadL c d w) (c : Nat) : ∀ (l : List Nat) (k : Nat), cnt1 w c l k = k + (innB gtB V c l).count true
  | [], k => rfl
  | d :: l, k => by
    have er : cnt1 w c (d :: l) k = @Bool.rec (fun _ => Nat) (cnt1 w c l k) (@Bool.rec (fun _ => Nat) (cnt1 w c l k) (cnt1 w c l (Nat.succ k)) (aheadL c d w)) (Nat.ble (Nat.succ d) c) := rfl
    have ei : innB gtB V c (d :: l) = if gtB c d = true then V c d :: innB gtB V c l else innB gtB V c l := by
      unfold innB
      rw [List.filter_cons]
      split <;> rfl
    rw [er, ei, gt_eq, hV]
    cases Nat.ble (Nat.succ d) c
    · rw [if_neg Bool.false_ne_true]; exact cnt1_eq w V hV c l k
    · rw [if_pos rfl]
      cases aheadL c d w
      · show cnt1 w c l k = _
        rw [cnt1_eq w V hV c l k]
        simp
      · show cnt1 w c l (Nat.succ k) = _
        rw [cnt1_eq w V hV c l (Nat.succ k)]
        simp
        omega
theorem cnt2_eq (w : List Nat) (V : Nat → Nat → Bool) (hV : ∀ c d, V c d = aheadL c d w) : ∀ (l : List Nat) (k : Nat), cnt2 w l k = k + (verdB gtB V w l).count true
  | [], k => rfl
  | c :: l, k => by
    have er : cnt2 w (c :: l) k = cnt2 w l (cnt1 w c w k) := rfl
    have ei : verdB gtB V w (c :: l) = innB gtB V c w ++ verdB gtB V w l := rfl
    rw [er, ei, cnt2_eq w V hV l, cnt1_eq w V hV, List.count_append]
    omega
theorem verd_eq (g : Str) : cntB (verdB gtB (fun c d => ellB c d g) g.cps.toList g.cps.toList) = (cnt2 g.cps.toList g.cps.toList 0 : Nat) := by
  unfold cntB
  rw [cnt2_eq g.cps.toList (fun c d => ellB c d g) (fun c d => ell_eq c d g)]
  simp
theorem idxN_eq (a : Nat) : ∀ (l : List Nat) (k : Nat), idxN a l k = k + l.idxOf a
  | [], k => by simp [idxN]
  | x :: l, k => by
    have er : idxN a (x :: l) k = @Bool.rec (fun _ => Nat) (idxN a l (Nat.succ k)) k (Nat.beq x a) := rfl
    rw [er, List.idxOf_cons]
    by_cases h : x = a
    · rw [Nat.beq_eq.mpr h, beq_iff_eq.mpr h]; rfl
    · have : Nat.beq x a = false := by
        cases q : Nat.beq x a
        · rfl
        · exact absurd (Nat.beq_eq.mp q) h
      rw [this, beq_eq_false_iff_ne.mpr h]
      show idxN a l (Nat.succ k) = k + (l.idxOf a + 1)
      rw [idxN_eq a l]
      omega
end Mine
end
theorem Mine.rs62 : True := by k_with_none; w_top off; trivial
section
open PySem PySem.W PyProof.Rows PySem.Calls PyProof.V PySem.Spec
set_option maxRecDepth 100000
set_option maxHeartbeats 8000000
namespace Mine
theorem join6 (a b c d e f : Nat) : (Txt.join (Str.ofString "") [⟨#[a]⟩, ⟨#[b]⟩, ⟨#[c]⟩, ⟨#[d]⟩, ⟨#[e]⟩, ⟨#[f]⟩]).cps.toList = [a, b, c, d, e, f] := by kernel_rfl
noncomputable section
noncomputable def cdL (al q : List Nat) (i : Nat) : Nat := getN al (getN q i)
noncomputable def wL (al q : List Nat) : Nat → List Nat
  | 0 => []
  | i + 1 => app (rotL (wL al q i) (cdL al q i)) [cdL al q i]
noncomputable def fL (q : List Nat) : Nat → Nat
  | 0 => 0
  | i + 1 => stepF (q.take i) (getN q i) (fL q i) i
noncomputable def IsPath : List Nat → List Nat → Prop
  | _, [] => True
  | pool, v :: r => v ∈ pool ∧ IsPath (dropV pool v) r
end
theorem brec_and {a b : Bool} (h : @Bool.rec (fun _ => Bool) false a b = true) : b = true ∧ a = true := by
  cases b
  · cases h
  · exact ⟨rfl, h⟩
theorem forceN_of {n : Nat} {k : Nat → Bool} : ∀ {al : List Nat}, forceN al n k = true → n ∈ al ∧ k n = true
  | [], h => by cases h
  | a :: al, h => by
    have h' : @Bool.rec (fun _ => Bool) (forceN al n k) (k a) (Nat.beq n a) = true := h
    by_cases e : n = a
    · subst e
      rw [Nat.beq_eq.mpr rfl] at h'
      exact ⟨.head _, h'⟩
    · rw [PySem.W.S.beq_off e] at h'
      obtain ⟨h1, h2⟩ := forceN_of h'
      exact ⟨.tail _ h1, h2⟩
theorem forceL_of {al : List Nat} : ∀ {l : List Nat} {k : List Nat → Bool}, forceL al l k = true → (∀ a ∈ l, a ∈ al) ∧ k l = true
  | [], _, h => ⟨(fun _ h => nomatch h), h⟩
  | a :: l, k, h => by
    have h' : forceN al a (fun a' => forceL al l fun l' => k (a' :: l')) = true := h
    obtain ⟨h1, h2⟩ := forceN_of h'
    obtain ⟨h3, h4⟩ := forceL_of h2
    exact ⟨fun b hb => (List.mem_cons.mp hb).elim (fun e => e ▸ h1) (h3 b), h4⟩
theorem all_rec {N : Nat → Bool} : ∀ {pool : List Nat}, @List.rec Nat (fun _ => Bool) true (fun v _ rest => @Bool.rec (fun _ => Bool) false (N v) rest) pool = true → ∀ v ∈ pool, N v = true
  | [], _, _, hv => nomatch hv
  | a :: l, h, v, hv => by
    obtain ⟨h1, h2⟩ := brec_and h
    rcases List.mem_cons.mp hv with rfl | hv
    · exact h2
    · exact all_rec h1 v hv
theorem listEq_of : ∀ {l r : List Nat}, listEq l r = true → l = r
  | [], [], _ => rfl
  | [], _ :: _, h => by cases h
  | _ :: _, [], h => by cases h
  | a :: l, b :: r, h => by
    have h' : @Bool.rec (fun _ => Bool) false (listEq l r) (Nat.beq a b) = true := h
    obtain ⟨h1, h2⟩ := brec_and h'
    rw [Nat.beq_eq.mp h1, listEq_of h2]
theorem node_of {al pool q w : List Nat} {n f k v : Nat} (h : goAll al (n + 1) pool q w f k = true) (hv : v ∈ pool) :
    getN al v ∈ al ∧ (∀ a ∈ app (rotL w (getN al v)) [getN al v], a ∈ al) ∧ cnt2 (app (rotL w (getN al v)) [getN al v]) (app (rotL w (getN al v)) [getN al v]) 0 = stepF q v f k ∧
    nearOK al (app q [v]) (app (rotL w (getN al v)) [getN al v]) [0, 1, 2, 3, 4] = true ∧ unweaveL (rotL w (getN al v)) (getN al v) = w ∧ goAll al n (dropV pool v) (app q [v]) (app (rotL w (getN al v)) [getN al v]) (stepF q v f k) (k + 1) = true := by
  have h1 := all_rec h v hv
  obtain ⟨a1, h1⟩ := forceN_of h1
  obtain ⟨_, h1⟩ := forceL_of h1
  obtain ⟨a2, h1⟩ := forceL_of h1
  obtain ⟨_, h1⟩ := forceL_of h1
  obtain ⟨_, h1⟩ := forceN_of h1
  obtain ⟨_, h1⟩ := forceN_of h1
  obtain ⟨b1, h1⟩ := brec_and h1
  obtain ⟨b2, h1⟩ := brec_and h1
  obtain ⟨b3, h1⟩ := brec_and h1
  obtain ⟨_, h1⟩ := forceL_of h1
  exact ⟨a1, a2, Nat.beq_eq.mp b1, b2, listEq_of b3, h1⟩
theorem getN_eq : ∀ (l : List Nat) (i : Nat), getN l i = l.getD i 0
  | [], _ => rfl
  | _ :: _, 0 => rfl
  | a :: l, i + 1 => by
    show getN l i = _
    rw [getN_eq l i]
    simp
theorem getN_at {l : List Nat} {i : Nat} (h : i < l.length) : l[i]? = some (getN l i) := by
  rw [getN_eq, List.getD_eq_getElem?_getD, List.getElem?_eq_getElem h]
  rfl
theorem take_next {q : List Nat} {i : Nat} (h : i < q.length) : app (q.take i) [getN q i] = q.take (i + 1) := by
  rw [app_eq, List.take_add_one, getN_at h]
  rfl
/-- what the checker has seen of the i-th step of a row -/
structure StepOK (al q : List Nat) (j : Nat) : Prop where
  c : cdL al q j ∈ al
  w : ∀ a ∈ wL al q (j + 1), a ∈ al
  f : cnt2 (wL al q (j + 1)) (wL al q (j + 1)) 0 = fL q (j + 1)
  n : nearOK al (q.take (j + 1)) (wL al q (j + 1)) [0, 1, 2, 3, 4] = true
  u : unweaveL (rotL (wL al q j) (cdL al q j)) (cdL al q j) = wL al q j
theorem go_path {al q : List Nat} (hq : q.length = 6) : ∀ (n i : Nat) (pool : List Nat), i + n = 6 → goAll al n pool (q.take i) (wL al q i) (fL q i) i = true → IsPath pool (q.drop i) → ∀ j, i ≤ j → j < 6 → StepOK al q j
  | 0, i, _, hi, _, _, j, h1, h2 => by omega
  | n + 1, i, pool, hi, h, hp, j, h1, h2 => by
    have hlt : i < q.length := by omega
    have ed : q.drop i = getN q i :: q.drop (i + 1) := by
      rw [List.drop_eq_getElem_cons hlt]
      congr 1
      have := getN_at hlt
      rw [List.getElem?_eq_getElem hlt] at this
      exact Option.some.inj this
    rw [ed] at hp
    obtain ⟨hv, hp⟩ := hp
    obtain ⟨a1, a2, a3, a4, a5, a6⟩ := node_of h hv
    rw [take_next hlt] at a4 a6
    rcases Nat.eq_or_lt_of_le h1 with e | e
    · subst e
      exact ⟨a1, a2, a3, a4, a5⟩
    · exact go_path hq n (i + 1) _ (by omega) a6 hp j e h2
theorem path_mem : ∀ {q pool : List Nat}, IsPath pool q → ∀ v ∈ q, v ∈ pool
  | [], _, _, _, hv => nomatch hv
  | a :: q, pool, ⟨h1, h2⟩, v, hv => by
    rcases List.mem_cons.mp hv with rfl | hv
    · exact h1
    · have h3 := path_mem h2 v hv
      have : ∀ {l : List Nat} {a v : Nat}, v ∈ dropV l a → v ∈ l := by
        intro l
        induction l with
        | nil => intro a v h; exact h
        | cons x l ih =>
          intro a v h
          have h' : v ∈ @Bool.rec (fun _ => List Nat) (x :: dropV l a) l (Nat.beq x a) := h
          cases q : Nat.beq x a
          · rw [q] at h'
            rcases List.mem_cons.mp h' with rfl | h'
            · exact .head _
            · exact .tail _ (ih h')
          · rw [q] at h'
            exact .tail _ h'
      exact this h3
theorem dropV_erase : ∀ {pool : List Nat} {i : Nat}, pool.Nodup → i < pool.length → dropV pool (pool.getD i 0) = pool.eraseIdx i
  | [], _, _, h => absurd h (Nat.not_lt_zero _)
  | a :: l, 0, _, _ => by
    show @Bool.rec (fun _ => List Nat) (a :: dropV l a) l (Nat.beq a a) = _
    rw [Nat.beq_eq.mpr rfl]
    rfl
  | a :: l, i + 1, hn, h => by
    have hl : i < l.length := Nat.lt_of_succ_lt_succ h
    have e : (a :: l).getD (i + 1) 0 = l.getD i 0 := by simp
    rw [e]
    have hne : a ≠ l.getD i 0 := by
      intro q
      refine (List.nodup_cons.mp hn).1 ?_
      rw [q, List.getD_eq_getElem?_getD, List.getElem?_eq_getElem hl]
      exact List.getElem_mem hl
    show @Bool.rec (fun _ => List Nat) (a :: dropV l (l.getD i 0)) l (Nat.beq a (l.getD i 0)) = _
    rw [PySem.W.S.beq_off hne]
    show a :: dropV l (l.getD i 0) = a :: l.eraseIdx i
    rw [dropV_erase (List.nodup_cons.mp hn).2 hl]
noncomputable def FitsI : Nat → List Nat → Prop
  | _, [] => True
  | n, i :: is => i < n ∧ FitsI (n - 1) is
theorem erase_map : ∀ (l : List Nat) (i : Nat), (l.map fun n : Nat => (n : Int)).eraseIdx i = (l.eraseIdx i).map fun n : Nat => (n : Int)
  | [], _ => rfl
  | _ :: _, 0 => rfl
  | a :: l, i + 1 => congrArg ((a : Int) :: ·) (erase_map l i)
theorem pop_path : ∀ (is pool : List Nat), pool.Nodup → FitsI pool.length is → ∃ q : List Nat, q.length = is.length ∧ popAll (pool.map fun n : Nat => (n : Int)) is = q.map (fun n : Nat => (n : Int)) ∧ IsPath pool q
  | [], pool, _, _ => ⟨[], rfl, by unfold popAll; rfl, trivial⟩
  | i :: is, pool, hn, ⟨hi, hf⟩ => by
    have hl : (pool.eraseIdx i).length = pool.length - 1 := List.length_eraseIdx_of_lt hi
    obtain ⟨q, h1, h2, h3⟩ := pop_path is (pool.eraseIdx i) (hn.sublist (List.eraseIdx_sublist ..)) (by rw [hl]; exact hf)
    refine ⟨pool.getD i 0 :: q, by simp [h1], ?_, ?_, ?_⟩
    · unfold popAll
      have e1 : (pool.map fun n : Nat => (n : Int)).getD i 0 = ((pool.getD i 0 : Nat) : Int) := by
        rw [List.getD_eq_getElem?_getD, List.getElem?_map, List.getD_eq_getElem?_getD, List.getElem?_eq_getElem hi]
        rfl
      have e2 : (pool.map fun n : Nat => (n : Int)).eraseIdx i = (pool.eraseIdx i).map fun n : Nat => (n : Int) := erase_map pool i
      rw [e1, e2, h2]
      rfl
    · rw [List.getD_eq_getElem?_getD, List.getElem?_eq_getElem hi]
      exact List.getElem_mem hi
    · rw [dropV_erase hn hi]
      exact h3
end Mine
end
theorem Mine.rs63 : True := by k_with_none; w_top off; trivial
section
open PySem PySem.W PyProof.Rows PySem.Calls PyProof.V PySem.Spec
set_option maxRecDepth 100000
set_option maxHeartbeats 8000000
namespace Mine
theorem go1 : goAll [97, 98, 103, 107, 109, 112] 6 [0, 1, 2, 3, 4, 5] [] [] 0 0 = true := by kernel_rfl
theorem go2 : goAll [102, 105, 108, 110, 115, 116] 6 [0, 1, 2, 3, 4, 5] [] [] 0 0 = true := by kernel_rfl
theorem go3 : goAll [104, 107, 109, 118, 119, 122] 6 [0, 1, 2, 3, 4, 5] [] [] 0 0 = true := by kernel_rfl
abbrev cst (q : List Nat) : List Int := q.map fun n : Nat => (n : Int)
theorem rot_len {p : Nat → Bool} : ∀ (l buf : List Nat) (d : Nat), l ≠ [] → p (lastN l d) = true → (rot p buf l).length = buf.length + l.length
  | [], _, _, h, _ => absurd rfl h
  | c :: l, buf, d, _, hp => by
    by_cases q : p c = true
    · have er : rot p buf (c :: l) = c :: app buf (rot p [] l) := by
        show @Bool.rec (fun _ => List Nat) _ _ (p c) = _
        rw [q]; rfl
      rw [er, app_eq, List.length_cons, List.length_append, List.length_cons]
      cases l with
      | nil => show buf.length + 0 + 1 = _; simp
      | cons b r =>
        rw [rot_len (b :: r) [] c (by simp) hp]
        simp; omega
    · cases l with
      | nil => exact absurd hp q
      | cons b r =>
        have er : rot p buf (c :: b :: r) = rot p (app buf [c]) (b :: r) := by
          show @Bool.rec (fun _ => List Nat) _ _ (p c) = _
          rw [Bool.not_eq_true] at q
          rw [q]; rfl
        rw [er, rot_len (b :: r) _ c (by simp) hp, app_eq]
        simp; omega
theorem rotL_len (l : List Nat) (a : Nat) : (rotL l a).length = l.length := by
  cases l with
  | nil => rfl
  | cons h r =>
    unfold rotL
    rw [rot_len (p := fun c => Nat.beq (cmpK a c) (cmpK a (lastN (h :: r) 0))) (h :: r) [] 0 (by simp) (Nat.beq_eq.mpr rfl)]
    simp
theorem wL_len (al q : List Nat) : ∀ i, (wL al q i).length = i
  | 0 => rfl
  | i + 1 => by
    show (app (rotL (wL al q i) (cdL al q i)) [cdL al q i]).length = _
    rw [app_eq, List.length_append, rotL_len, wL_len al q i]
    rfl
theorem six_of {q : List Nat} (h : q.length = 6) : ∃ a b c d e f, q = [a, b, c, d, e, f] := by
  match q, h with
  | [a, b, c, d, e, f], _ => exact ⟨a, b, c, d, e, f, rfl⟩
theorem cst_getD (q : List Nat) (i : Nat) : (cst q).getD i 0 = (getN q i : Int) := by
  rw [getN_eq, List.getD_eq_getElem?_getD, List.getElem?_map, List.getD_eq_getElem?_getD]
  cases q[i]? <;> rfl
theorem fall_eq {q : List Nat} (hq : q.length = 6) : ∀ i, i ≤ 6 → fallI (cst q) i = (fL q i : Int)
  | 0, _ => rfl
  | i + 1, h => by
    have ih := fall_eq hq i (by omega)
    have e1 : fallI (cst q) (i + 1) = if 0 < i ∧ (cst q).getD i 0 < (cst q).getD (i - 1) 0 then fallI (cst q) i + i else fallI (cst q) i := rfl
    have e2 : fL q (i + 1) = stepF (q.take i) (getN q i) (fL q i) i := rfl
    rw [e1, e2, cst_getD, cst_getD, ih]
    cases hi : i with
    | zero =>
      rw [if_neg (fun h => Nat.lt_irrefl 0 h.1)]
      rfl
    | succ j =>
      have hl : (q.take (j + 1)).length = j + 1 := by rw [List.length_take]; omega
      cases ht : q.take (j + 1) with
      | nil => rw [ht] at hl; simp at hl
      | cons a l =>
        have el : lastN l a = getN q j := by
          have e3 : lastN (a :: l) 0 = lastN l a := rfl
          rw [← e3, lastN_eq, ← ht, hl, getN_eq, List.getD_eq_getElem?_getD, List.getD_eq_getElem?_getD, List.getElem?_take]
          have : j + 1 - 1 < j + 1 := by omega
          rw [if_pos this]
          rfl
        show _ = ((@Bool.rec (fun _ => Nat) (fL q (j + 1)) (Nat.add (fL q (j + 1)) (j + 1)) (Nat.ble (Nat.succ (getN q (j + 1))) (lastN l a)) : Nat) : Int)
        rw [el]
        have ej : j + 1 - 1 = j := by omega
        rw [ej]
        by_cases hc : getN q (j + 1) < getN q j
        · rw [ble_t hc, if_pos ⟨by omega, by omega⟩]
          show _ = ((fL q (j + 1) + (j + 1) : Nat) : Int)
          push_cast
          rfl
        · rw [ble_f hc, if_neg (fun h => hc (by have := h.2; omega))]
theorem idx_cst (a : Nat) : ∀ l : List Nat, (cst l).idxOf (a : Int) = l.idxOf a
  | [] => rfl
  | x :: l => by
    show ((x : Int) :: cst l).idxOf (a : Int) = _
    rw [List.idxOf_cons, List.idxOf_cons, idx_cst a l]
    by_cases h : x = a
    · rw [beq_iff_eq.mpr h, beq_iff_eq.mpr (by rw [h])]
    · rw [beq_eq_false_iff_ne.mpr h, beq_eq_false_iff_ne.mpr (fun e => h (by exact Int.ofNat.inj e))]
theorem near_mem {al q w : List Nat} : ∀ {vs : List Nat}, nearOK al q w vs = true → ∀ v ∈ vs, near1 q w (getN al v) (getN al (v + 1)) v = true
  | [], _, _, hv => nomatch hv
  | a :: l, h, v, hv => by
    obtain ⟨h1, h2⟩ := brec_and (a := nearOK al q w l) (b := near1 q w (getN al a) (getN al (Nat.succ a)) a) h
    rcases List.mem_cons.mp hv with rfl | hv
    · exact h1
    · exact near_mem h2 v hv
theorem bEq_of {a b : Bool} (h : bEq a b = true) : a = b := by
  cases a <;> cases b <;> first | rfl | cases h
theorem ble_dec (a b : Nat) : Nat.ble (Nat.succ a) b = decide (((a : Nat) : Int) < (b : Nat)) := by
  by_cases h : a < b
  · rw [ble_t h]; exact (decide_eq_true (by omega)).symm
  · rw [ble_f h]; exact (decide_eq_false (by omega)).symm
theorem near1_of {q w : List Nat} {c d v : Nat} (h : near1 q w c d v = true) (h1 : v ∈ q) (h2 : v + 1 ∈ q) : c ∈ w ∧ d ∈ w ∧ decide (((w.idxOf d : Nat) : Int) < (w.idxOf c : Nat)) = decide (((q.idxOf (v + 1) : Nat) : Int) < (q.idxOf v : Nat)) := by
  unfold near1 at h
  rw [(hasN_iff v q).mpr h1, (hasN_iff (Nat.succ v) q).mpr h2] at h
  have h' : @Bool.rec (fun _ => Bool) false (@Bool.rec (fun _ => Bool) false (bEq (Nat.ble (Nat.succ (idxN d w 0)) (idxN c w 0)) (Nat.ble (Nat.succ (idxN (Nat.succ v) q 0)) (idxN v q 0))) (hasN d w)) (hasN c w) = true := h
  obtain ⟨a1, h'⟩ := brec_and h'
  obtain ⟨a2, h'⟩ := brec_and h'
  have e := bEq_of h'
  rw [idxN_eq, idxN_eq, idxN_eq, idxN_eq, Nat.zero_add, Nat.zero_add, Nat.zero_add, Nat.zero_add, ble_dec, ble_dec] at e
  exact ⟨(hasN_iff c w).mp a1, (hasN_iff d w).mp a2, e⟩
theorem small_q {q : List Nat} (hp : IsPath [0, 1, 2, 3, 4, 5] q) : ∀ v ∈ q, v < 6 := fun v hv => by
  have := path_mem hp v hv
  simp only [List.mem_cons, List.not_mem_nil, or_false] at this
  omega
theorem getN_mem {q : List Nat} {i : Nat} (h : i < q.length) : getN q i ∈ q := List.mem_of_getElem? (getN_at h)
theorem lf_one {al : List Nat} {letters : Str} (hal : letters.cps.toList = al) (hlen : al.length = 6) (hgood : ∀ a ∈ al, a ∈ goodL) (hgo : goAll al 6 [0, 1, 2, 3, 4, 5] [] [] 0 0 = true) {o : List Int} (hO : IsOrder o) :
    LF letters o (Txt.join (Str.ofString "") (o.map (Txt.item letters))) ∧ ∀ c ∈ (Txt.join (Str.ofString "") (o.map (Txt.item letters))).cps.toList, c ∈ goodL := by
  obtain ⟨i0, i1, i2, i3, i4, i5, b0, b1, b2, b3, b4, b5, rfl⟩ := hO
  obtain ⟨q, hq, ho, hp⟩ := pop_path [i0, i1, i2, i3, i4, i5] [0, 1, 2, 3, 4, 5] (by decide) ⟨b0, b1, b2, b3, b4, b5, trivial⟩
  have ho' : popAll [0, 1, 2, 3, 4, 5] [i0, i1, i2, i3, i4, i5] = cst q := ho
  rw [ho']
  have hq6 : q.length = 6 := hq
  have S := fun j hj => go_path hq6 6 0 _ rfl hgo hp j (Nat.zero_le _) hj
  have hsm := small_q hp
  have hit : ∀ v : Nat, v < 6 → Txt.item letters (v : Int) = ⟨#[getN al v]⟩ := fun v hv => item_at (by omega) (by rw [Int.toNat_natCast, hal]; exact getN_at (by omega))
  have hcode : ∀ v : Nat, v < 6 → codeAt letters (v : Int) = getN al v := fun v hv => by
    have := hit v hv
    unfold Txt.item at this
    have e := congrArg (fun x : Str => x.cps.getD 0 0) this
    simpa [codeAt] using e
  have hxl : (Txt.join (Str.ofString "") ((cst q).map (Txt.item letters))).cps.toList = q.map (getN al) := by
    obtain ⟨a, b, c, d, e, f, rfl⟩ := six_of hq6
    have e1 : ((cst [a, b, c, d, e, f]).map (Txt.item letters)) = [Txt.item letters (a : Int), Txt.item letters (b : Int), Txt.item letters (c : Int), Txt.item letters (d : Int), Txt.item letters (e : Int), Txt.item letters (f : Int)] := rfl
    rw [e1, hit a (hsm a (by simp)), hit b (hsm b (by simp)), hit c (hsm c (by simp)), hit d (hsm d (by simp)), hit e (hsm e (by simp)), hit f (hsm f (by simp)), join6]
    rfl
  generalize hxd : Txt.join (Str.ofString "") ((cst q).map (Txt.item letters)) = x at *
  have hx6 : x.length = 6 := by
    have : x.length = x.cps.toList.length := by simp [Str.length]
    rw [this, hxl, List.length_map, hq6]
  have hxat : ∀ i, i < 6 → x.cps.toList[i]? = some (cdL al q i) := fun i hi => by
    rw [hxl, List.getElem?_map, getN_at (by omega)]
    rfl
  have hxi : ∀ i : Nat, i < 6 → Txt.item x (i : Int) = ⟨#[cdL al q i]⟩ := fun i hi => item_at (by omega) (by rw [Int.toNat_natCast]; exact hxat i hi)
  have hW : ∀ i, i ≤ 6 → wovS x i = ⟨(wL al q i).toArray⟩ := by
    intro i
    induction i with
    | zero =>
      intro _
      show Str.ofString "" = ⟨#[]⟩
      decide +kernel
    | succ i ih =>
      intro hi
      show weaveS (wovS x i) (Txt.item x (i : Int)) = _
      rw [ih (by omega), hxi i (by omega), weave_eq]
      rfl
  have hWl : ∀ i, i ≤ 6 → (wovS x i).cps.toList = wL al q i := fun i hi => by rw [hW i hi]
  have hun : ∀ i, i ≤ 6 → unwS (wovS x 6) i = wovS x (6 - i) := by
    intro i
    induction i with
    | zero => intro _; rfl
    | succ i ih =>
      intro hi
      show unweaveS (unwS (wovS x 6) i) = _
      obtain ⟨j, hj⟩ : ∃ j, 6 - i = j + 1 := ⟨5 - i, by omega⟩
      have hj2 : 6 - (i + 1) = j := by omega
      rw [ih (by omega), hj, hj2, hW (j + 1) (by omega), hW j (by omega)]
      have e1 : wL al q (j + 1) = rotL (wL al q j) (cdL al q j) ++ [cdL al q j] := app_eq _ _
      rw [e1, unweave_eq, (S j (by omega)).u]
  have hlast : ∀ j, j < 6 → Txt.item (wovS x (j + 1)) (-1) = ⟨#[cdL al q j]⟩ := fun j hj => by
    rw [hW (j + 1) (by omega)]
    have e1 : wL al q (j + 1) = rotL (wL al q j) (cdL al q j) ++ [cdL al q j] := app_eq _ _
    rw [e1, item_last]
  have hback : ∀ i, i ≤ 6 → (backS (wovS x 6) i).cps.toList = x.cps.toList.drop (6 - i) := by
    intro i
    induction i with
    | zero =>
      intro _
      have : x.cps.toList.drop (6 - 0) = [] := by rw [hxl]; exact List.drop_of_length_le (by rw [List.length_map, hq6]; exact Nat.le_refl _)
      rw [this]
      show (Str.ofString "").cps.toList = []
      decide +kernel
    | succ i ih =>
      intro hi
      show (Txt.item (unwS (wovS x 6) i) (-1) ++ backS (wovS x 6) i).cps.toList = _
      obtain ⟨j, hj⟩ : ∃ j, 6 - i = j + 1 := ⟨5 - i, by omega⟩
      have hj2 : 6 - (i + 1) = j := by omega
      rw [hun i (by omega), hj, hlast j (by omega), PySem.Str.cps_append, Array.toList_append, ih (by omega), hj, hj2]
      have hlt : j < x.cps.toList.length := by rw [hxl, List.length_map]; omega
      rw [List.drop_eq_getElem_cons hlt]
      have := hxat j (by omega)
      rw [List.getElem?_eq_getElem hlt] at this
      rw [Option.some.inj this]
      rfl
  have hal6 : ∀ i, i ≤ 6 → ∀ c ∈ wL al q i, c ∈ al := by
    intro i hi
    cases i with
    | zero => intro c hc; cases hc
    | succ i => exact (S i (by omega)).w
  refine ⟨⟨?_, ?_, ?_, hx6, ?_, ?_, ?_, ?_, ?_, ?_⟩, ?_⟩
  · have : letters.length = letters.cps.toList.length := by simp [Str.length]
    rw [this, hal, hlen]
  · rw [List.length_map, hq6]
  · intro n hn
    obtain ⟨v, hv, rfl⟩ := List.mem_map.mp hn
    have := hsm v hv
    omega
  · intro i hi
    have : (wovS x i).length = (wovS x i).cps.toList.length := by simp [Str.length]
    rw [this, hWl i hi, wL_len]
  · intro i hi c hc
    rw [hWl i hi] at hc
    exact hgood c (hal6 i hi c hc)
  · intro i hi
    rw [verd_eq, hWl (i + 1) (by omega), (S i hi).f, fall_eq hq6 (i + 1) (by omega)]
  · intro i hi v h0 h5 hv1 hv2
    obtain ⟨n, rfl⟩ : ∃ n : Nat, v = (n : Int) := ⟨v.toNat, by omega⟩
    have et : (cst q).take (i + 1) = cst (q.take (i + 1)) := by
      show List.take _ (List.map _ q) = List.map _ _
      rw [List.map_take]
    have es : ((n : Int) + 1) = ((n + 1 : Nat) : Int) := by omega
    rw [et] at hv1 hv2 ⊢
    rw [es] at hv2 ⊢
    have m1 : n ∈ q.take (i + 1) := by
      obtain ⟨k, hk, e⟩ := List.mem_map.mp hv1
      have : k = n := by omega
      exact this ▸ hk
    have m2 : n + 1 ∈ q.take (i + 1) := by
      obtain ⟨k, hk, e⟩ := List.mem_map.mp hv2
      have : k = n + 1 := by omega
      exact this ▸ hk
    have hn := near_mem (S i hi).n n (by
      have : n = 0 ∨ n = 1 ∨ n = 2 ∨ n = 3 ∨ n = 4 := by omega
      rcases this with rfl | rfl | rfl | rfl | rfl <;> simp)
    obtain ⟨r1, r2, r3⟩ := near1_of hn m1 m2
    rw [hWl (i + 1) (by omega), hcode n (by omega), hcode (n + 1) (by omega), idx_cst, idx_cst]
    exact ⟨r1, r2, r3⟩
  · intro i hi
    rw [hun i (by omega)]
    have : (wovS x (6 - i)).length = (wovS x (6 - i)).cps.toList.length := by simp [Str.length]
    rw [this, hWl (6 - i) (by omega), wL_len]
  · have h := hback 6 (Nat.le_refl _)
    exact PySem.Str.ext' (Array.toList_inj.mp h)
  · intro c hc
    rw [hxl] at hc
    obtain ⟨v, hv, rfl⟩ := List.mem_map.mp hc
    exact hgood _ (getN_mem (by have := hsm v hv; omega))
theorem lf_all : ∀ letters o, (letters = Str.ofString "abgkmp" ∨ letters = Str.ofString "filnst" ∨ letters = Str.ofString "hkmvwz") → IsOrder o → LF letters o (Txt.join (Str.ofString "") (o.map (Txt.item letters))) ∧ ∀ c ∈ (Txt.join (Str.ofString "") (o.map (Txt.item letters))).cps.toList, c ∈ goodL := by
  rintro letters o (rfl | rfl | rfl) hO
  · exact lf_one (al := [97, 98, 103, 107, 109, 112]) (by decide +kernel) rfl (by decide) go1 hO
  · exact lf_one (al := [102, 105, 108, 110, 115, 116]) (by decide +kernel) rfl (by decide) go2 hO
  · exact lf_one (al := [104, 107, 109, 118, 119, 122]) (by decide +kernel) rfl (by decide) go3 hO
end Mine
end
theorem Mine.rs64 : True := by k_with_none; w_top off; trivial
section
open PySem PySem.W PyProof.Rows PySem.Calls PyProof.V PySem.Spec
set_option maxRecDepth 100000
set_option maxHeartbeats 8000000
namespace Mine
set_option maxHeartbeats 0 in
theorem said1 : PySem.Challenge.rw_wo0061_01.wellSaid = true := by
  delta OpenLaw.wellSaid OpenRow.wellSaid OpenRow.partSaid looksOpen
  with_reducible repeat' (refine look_both ?_ ?_)
  all_goals (try with_reducible rw [PySem.W.Fast.te8326940854005059898])
  all_goals (try with_reducible rw [PySem.W.Fast.te8377067652309620493])
  all_goals (try with_reducible rw [PySem.W.Fast.named_eq])
  all_goals decide +kernel
theorem fin : PySem.Challenge.rw_wo0061_01.Holds := by
  w_on
  refine holds_law said1 fun said => ?_
  refine holds_mine (by assumption) (by rfl) (by rfl) (by rfl) (by decide +kernel) ⟨rfl, rfl, rfl, rfl, rfl, by decide +kernel⟩ ?hw ?hc
  case hw => w_witness2
  intro w s₀ s₁ mg mb G Y fa o pm cd doc dV kV ho hd hcd hD hmg hg args vals as hpre hlay hrd hwl hlo
  have KX := Y.1
  have KT := tab_of Y.2
  refine Ground.open G ?_
  intro T B D TE TW
  try (refine guard_noD D (by decide +kernel) ?_; clear D)
  clear hmg
  wrow_args hpre hlay hrd hwl hlo
  all_goals (
    first | refine callC_kw (enter_call ?_) | refine enter_call ?_ | refine callC_kw (enter_callW ?_) | refine enter_callW ?_ | w_how
    have K0 := below_caller (Top.heap T)
    w_call any ho hd hcd hD T F
    clear hd)
  k_dflt (refine' law_walk rfl ?k1 ?k3 ?k5 ?hE rfl ?kT ?hG ?hl ?hi ?hn lf_all ?hm ?dL ?dW ?F ?N ?ret)
  case k1 => assumption
  case k3 => exact KX
  case k5 => assumption
  case hE => passes_own
  case kT => exact KT
  case hG =>
    intro y hy
    have hy' : y ∈ s₁.gens := hy
    rw [hg] at hy'
    simp at hy'
  case hl => assumption
  case hi => assumption
  case hn => omega
  case F => assumption
  case hm => rfl
  case N => assumption
  case dL =>
    (rename CellsAre _ _ _ => X0)
    obtain ⟨q1, q2, e, d1, d2⟩ := CellsAre.two X0
    simp only [List.cons.injEq, Prod.mk.injEq, and_true, true_and] at e
    obtain ⟨e1, e2⟩ := e
    subst e1 e2
    first | exact d2 | exact d1
  case dW =>
    (rename CellsAre _ _ _ => X0)
    obtain ⟨q1, q2, e, d1, d2⟩ := CellsAre.two X0
    simp only [List.cons.injEq, Prod.mk.injEq, and_true, true_and] at e
    obtain ⟨e1, e2⟩ := e
    subst e1 e2
    first | exact d1 | exact d2
  case ret =>
    intro h' tk G' m' nw hG' F' N'
    refine ⟨.inl ⟨_, .bool true, [], rfl, (raisesW_false ?_), .bool true, ?_, unshared_nil⟩, .of_keep F'.keep, rfl, hG'⟩
    · wrow_none_raised
    · first | wrow_post | kc_post
end Mine
end
end
set_option maxRecDepth 100000 in
set_option maxHeartbeats 8000000 in
theorem PySem.Challenge.cw_wo0061_01_holds : PySem.Challenge.rw_wo0061_01.Holds := by
  exact Mine.fin
