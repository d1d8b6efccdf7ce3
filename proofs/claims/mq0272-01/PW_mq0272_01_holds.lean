import PyProof.Rows.All
import Wide.All
import OpenK.AllK
import Wide.FinOn
import PySem.Challenge.RW_mq0272_01
section
open PySem PySem.W PyProof.Rows
set_option Elab.async false
set_option maxRecDepth 100000
set_option maxHeartbeats 0
namespace Mine
noncomputable section
abbrev pw : Program := PySem.Challenge.pw_mq0272_01

/- the defs of the text, by place -/
def stAt (i : Nat) : List Stmt := (pw.main.body.drop i).take 1
def fnName (i : Nat) : Str := match stAt i with | [.FunctionDef n _ _ _ _ _ _ _ _ _] => n | _ => Str.empty
def fnArgs (i : Nat) : Arguments := match stAt i with | [.FunctionDef _ a _ _ _ _ _ _ _ _] => a | _ => ⟨[], [], none, [], [], none, []⟩
def fnBody (i : Nat) : List Stmt := match stAt i with | [.FunctionDef _ _ b _ _ _ _ _ _ _] => b | _ => []
def fnScope (i : Nat) : Scope := match stAt i with | [.FunctionDef _ _ _ _ _ _ s _ _ _] => s | _ => pw.main.scope

def fnD (i : Nat) (pm cd : Value) : Data := .func { name := fnName i, qualname := fnName i, params := fnArgs i, body := .stmts (fnBody i), scope := fnScope i, globals := 3, closure := [], defaults := .none, kwdefaults := .none, doc := .none, pyModule := pm, annotations := none, code := cd, closureTuple := .none, builtins := 0 }
def cdD (i : Nat) : Data := .func { name := fnName i, qualname := fnName i, params := fnArgs i, body := .stmts (fnBody i), scope := fnScope i, globals := 0, closure := [], defaults := .none, kwdefaults := .none }
abbrev tx (s : String) (t : Nat) : Value := .str (Str.ofString s) t

/- the main namespace -/
def nm (P : Params) (s : String) (t : Nat) (v : Value) : DictEntry := ⟨PyData.keyHash P (Str.ofString s), .str (Str.ofString s) t, v⟩
def bootTail (P : Params) : List DictEntry := [nm P "__doc__" 166 .none, nm P "__package__" 167 .none, nm P "__loader__" 168 (.builtin "__main__.__loader__#opaque"), nm P "__spec__" 169 .none,
  nm P "__annotations__" 170 (.ref 6), nm P "__builtins__" 171 (.ref 4), nm P "__file__" 173 (tx "/claim/cut.py" 172), nm P "__cached__" 174 .none]
def globs (P : Params) : List DictEntry := [nm P "replace" 196 (.ref 21), nm P "cram" 206 (.ref 28), nm P "b1_set" 268 (.ref 36), nm P "in_table_b1" 275 (.ref 46), nm P "b3_exceptions" 2226 (.ref 47), nm P "map_table_b3" 2234 (.ref 92), nm P "_law_strands" 2242 (.ref 97), nm P "_law_figures" 2248 (.ref 102), nm P "_law_line" 2254 (.ref 107), nm P "_law_distinct" 2263 (.ref 114), nm P "_law_pairs" 2272 (.ref 121), nm P "_law_width" 2279 (.ref 128), nm P "_law_done" 2288 (.ref 135), nm P "_law_fit" 2298 (.ref 142), nm P "_law_due" 2304 (.ref 147), nm P "_law_chain" 2310 (.ref 152), nm P "law" 2316 (.ref 157)]
def mainObj (P : Params) (nv : Value) (k : Nat) : Obj := ⟨.type "dict", none, .dict (nm P "__name__" 165 nv :: (bootTail P ++ (globs P).take k)).toArray (9 + k), #[]⟩
def low (P : Params) (nv : Value) (k : Nat) : List Obj := [boot_o_0 P, boot_o_1 P, boot_o_2 P, mainObj P nv k, boot_o_4 P, boot_o_5 P, boot_o_6 P, boot_o_7 P, boot_o_8 P, boot_o_9 P, boot_o_10 P]
def f12 : List Value := [.int 2 0, .int 0 0, .ref 20, .int 7 0, .int 0 0, .ref 27, .int 15 0, .int 0 0, .ref 45, .int 18 0, .int 0 0, .ref 91, .int 24 0, .int 0 0, .ref 96, .int 28 0, .int 0 0, .ref 101, .int 31 0, .int 0 0, .ref 106, .int 36 0, .int 0 0, .ref 113, .int 42 0, .int 0 0, .ref 120, .int 47 0, .int 0 0, .ref 127, .int 49 0, .int 0 0, .ref 134, .int 56 0, .int 0 0, .ref 141, .int 67 0, .int 0 0, .ref 146, .int 71 0, .int 0 0, .ref 151, .int 80 0, .int 0 0, .ref 156]
def setEs : List (Int × Value) := [(65024, .int 65024 225), (65025, .int 65025 226), (65026, .int 65026 227), (65027, .int 65027 228), (65028, .int 65028 229), (65029, .int 65029 230), (6150, .int 6150 211), (65030, .int 65030 231), (65031, .int 65031 232), (65032, .int 65032 233), (65033, .int 65033 234), (6155, .int 6155 212), (6156, .int 6156 213), (6157, .int 6157 214), (8203, .int 8203 215), (8204, .int 8204 216), (8205, .int 8205 217), (65034, .int 65034 235), (65035, .int 65035 236), (65036, .int 65036 237), (65037, .int 65037 238), (65038, .int 65038 239), (65039, .int 65039 240), (173, .int 173 209), (847, .int 847 210), (8288, .int 8288 218), (65279, .int 65279 219)]
def setTb (led : Bool) : SetTable := { mask := 127, place := #[0, 1, 2, 3, 4, 5, 6, 7, 8, 9, 10, 11, 12, 13, 14, 15, 16, 17, 18, 19, 20, 21, 22, 45, 79, 96, 127], dummies := #[], finger := 0, led := led, moves := 2, plain := true }
def oA (f : List Value) : List Obj := [
  ⟨.type "tuple", none, .seq [].toArray 0, #[]⟩,
  ⟨.none, none, .fields f.toArray, #[]⟩,
  ⟨.type "code", none, .fields [(tx "<module>" 182), (tx "<module>" 183), (tx "/claim/cut.py" 184), .int 1 0, .int 0 0, .int 0 0, .int 0 0, .int 0 0, .ref 11, .bool false, .int 181 0, .ref 12, .none, .none, .none, .none, .int 185 0, .int 1 0, (tx "/claim/cut.py" 186)].toArray, #[]⟩,
  ⟨.type "frame", none, .plain, #[some (.ref 13), some (.ref 3), some (.ref 3), none, some ((tx "__main__" 164)), none, some (.ref 0)]⟩,
  ⟨.type "tuple", none, .seq [].toArray 0, #[]⟩,
  ⟨.none, none, .fields [].toArray, #[]⟩,
  ⟨.type "tuple", none, .seq [(tx "text" 192), (tx "pairs" 193)].toArray 0, #[]⟩,
  ⟨.type "tuple", none, .seq [].toArray 0, #[]⟩,
  ⟨.none, none, (cdD 1), #[]⟩,
  ⟨.type "code", none, .fields [(tx "replace" 189), (tx "replace" 190), (tx "/claim/cut.py" 191), .int 2 0, .int 1 0, .int 0 0, .int 0 0, .int 7 0, .ref 15, .bool true, .int 181 0, .ref 16, .none, .ref 17, .ref 18, .ref 19, .int 194 0, .int 2 0, (tx "/claim/cut.py" 195)].toArray, #[]⟩,
  ⟨.type "function", none, (fnD 1 ((tx "cpy313.pydoc" 187)) (.ref 20)), #[]⟩,
  ⟨.type "tuple", none, .seq [].toArray 0, #[]⟩,
  ⟨.none, none, .fields [].toArray, #[]⟩,
  ⟨.type "tuple", none, .seq [(tx "text" 200), (tx "maxlen" 201), (tx "pre" 202), (tx "post" 203)].toArray 0, #[]⟩,
  ⟨.type "tuple", none, .seq [].toArray 0, #[]⟩,
  ⟨.none, none, (cdD 2), #[]⟩,
  ⟨.type "code", none, .fields [(tx "cram" 197), (tx "cram" 198), (tx "/claim/cut.py" 199), .int 7 0, .int 2 0, .int 0 0, .int 0 0, .int 3 0, .ref 22, .bool true, .int 181 0, .ref 23, .none, .ref 24, .ref 25, .ref 26, .int 204 0, .int 7 0, (tx "/claim/cut.py" 205)].toArray, #[]⟩,
  ⟨.type "function", none, (fnD 2 ((tx "cpy313.pydoc" 187)) (.ref 27)), #[]⟩]
def oB (P : Params) : List Obj := [
  ⟨.type "list", none, .seq [.int 173 209, .int 847 210, .int 6150 211, .int 6155 212, .int 6156 213, .int 6157 214, .int 8203 215, .int 8204 216, .int 8205 217, .int 8288 218, .int 65279 219].toArray 0, #[]⟩,
  ⟨.type "range", none, .fields [.int 65024 220, .int 65040 221, .int 1 222].toArray, #[]⟩,
  ⟨.type "list", none, .seq [.int 65024 225, .int 65025 226, .int 65026 227, .int 65027 228, .int 65028 229, .int 65029 230, .int 65030 231, .int 65031 232, .int 65032 233, .int 65033 234, .int 65034 235, .int 65035 236, .int 65036 237, .int 65037 238, .int 65038 239, .int 65039 240].toArray 18, #[]⟩,
  ⟨.type "range_iterator", none, .fields [.int 65040 0, .int 0 0, .int 1 0].toArray, #[]⟩,
  ⟨.type "tuple", none, .seq [].toArray 0, #[]⟩,
  ⟨.type "StopIteration", none, .fields [.ref 33, .none, .none, .none, .bool false, .none].toArray, #[]⟩,
  ⟨.type "list", none, .seq [.int 173 209, .int 847 210, .int 6150 211, .int 6155 212, .int 6156 213, .int 6157 214, .int 8203 215, .int 8204 216, .int 8205 217, .int 8288 218, .int 65279 219, .int 65024 225, .int 65025 226, .int 65026 227, .int 65027 228, .int 65028 229, .int 65029 230, .int 65030 231, .int 65031 232, .int 65032 233, .int 65033 234, .int 65034 235, .int 65035 236, .int 65036 237, .int 65037 238, .int 65038 239, .int 65039 240].toArray 0, #[]⟩,
  ⟨.type "set", none, .set setEs.toArray 29 (setTb (!P.followText "set-order")), #[]⟩,
  ⟨.type "list_iterator", none, .fields [.none, .int 27 0].toArray, #[]⟩,
  ⟨.type "tuple", none, .seq [].toArray 0, #[]⟩,
  ⟨.type "StopIteration", none, .fields [.ref 38, .none, .none, .none, .bool false, .none].toArray, #[]⟩]
def oC : List Obj := [
  ⟨.type "tuple", none, .seq [].toArray 0, #[]⟩,
  ⟨.none, none, .fields [].toArray, #[]⟩,
  ⟨.type "tuple", none, .seq [(tx "code" 272)].toArray 0, #[]⟩,
  ⟨.type "tuple", none, .seq [].toArray 0, #[]⟩,
  ⟨.none, none, (cdD 5), #[]⟩,
  ⟨.type "code", none, .fields [(tx "in_table_b1" 269), (tx "in_table_b1" 270), (tx "/claim/cut.py" 271), .int 15 0, .int 1 0, .int 0 0, .int 0 0, .int 3 0, .ref 40, .bool true, .int 181 0, .ref 41, .none, .ref 42, .ref 43, .ref 44, .int 273 0, .int 15 0, (tx "/claim/cut.py" 274)].toArray, #[]⟩,
  ⟨.type "function", none, (fnD 5 ((tx "cpy313.stringprep" 207)) (.ref 45)), #[]⟩]
def oE : List Obj := [
  ⟨.type "tuple", none, .seq [].toArray 0, #[]⟩,
  ⟨.none, none, .fields [].toArray, #[]⟩,
  ⟨.type "tuple", none, .seq [(tx "code" 2230), (tx "r" 2231)].toArray 0, #[]⟩,
  ⟨.type "tuple", none, .seq [].toArray 0, #[]⟩,
  ⟨.none, none, (cdD 7), #[]⟩,
  ⟨.type "code", none, .fields [(tx "map_table_b3" 2227), (tx "map_table_b3" 2228), (tx "/claim/cut.py" 2229), .int 18 0, .int 1 0, .int 0 0, .int 0 0, .int 3 0, .ref 86, .bool true, .int 181 0, .ref 87, .none, .ref 88, .ref 89, .ref 90, .int 2232 0, .int 18 0, (tx "/claim/cut.py" 2233)].toArray, #[]⟩,
  ⟨.type "function", none, (fnD 7 ((tx "cpy313.stringprep" 207)) (.ref 91)), #[]⟩,
  ⟨.type "tuple", none, .seq [].toArray 0, #[]⟩,
  ⟨.none, none, .fields [].toArray, #[]⟩,
  ⟨.none, none, (cdD 9), #[]⟩,
  ⟨.type "code", none, .fields [(tx "_law_strands" 2237), (tx "_law_strands" 2238), (tx "/claim/cut.py" 2239), .int 24 0, .int 1 0, .int 0 0, .int 0 0, .int 3 0, .ref 93, .bool true, .int 181 0, .ref 94, .none, .none, .none, .ref 95, .int 2240 0, .int 24 0, (tx "/claim/cut.py" 2241)].toArray, #[]⟩,
  ⟨.type "function", none, (fnD 9 ((tx "law_mq0272_01" 2235)) (.ref 96)), #[]⟩,
  ⟨.type "tuple", none, .seq [].toArray 0, #[]⟩,
  ⟨.none, none, .fields [].toArray, #[]⟩,
  ⟨.none, none, (cdD 10), #[]⟩,
  ⟨.type "code", none, .fields [(tx "_law_figures" 2243), (tx "_law_figures" 2244), (tx "/claim/cut.py" 2245), .int 28 0, .int 1 0, .int 0 0, .int 0 0, .int 3 0, .ref 98, .bool true, .int 181 0, .ref 99, .none, .none, .none, .ref 100, .int 2246 0, .int 28 0, (tx "/claim/cut.py" 2247)].toArray, #[]⟩,
  ⟨.type "function", none, (fnD 10 ((tx "law_mq0272_01" 2235)) (.ref 101)), #[]⟩,
  ⟨.type "tuple", none, .seq [].toArray 0, #[]⟩,
  ⟨.none, none, .fields [].toArray, #[]⟩,
  ⟨.none, none, (cdD 11), #[]⟩,
  ⟨.type "code", none, .fields [(tx "_law_line" 2249), (tx "_law_line" 2250), (tx "/claim/cut.py" 2251), .int 31 0, .int 2 0, .int 0 0, .int 0 0, .int 3 0, .ref 103, .bool true, .int 181 0, .ref 104, .none, .none, .none, .ref 105, .int 2252 0, .int 31 0, (tx "/claim/cut.py" 2253)].toArray, #[]⟩,
  ⟨.type "function", none, (fnD 11 ((tx "law_mq0272_01" 2235)) (.ref 106)), #[]⟩,
  ⟨.type "tuple", none, .seq [].toArray 0, #[]⟩,
  ⟨.none, none, .fields [].toArray, #[]⟩,
  ⟨.type "tuple", none, .seq [(tx "text" 2258), (tx "signs" 2259), (tx "c" 2260)].toArray 0, #[]⟩,
  ⟨.type "tuple", none, .seq [].toArray 0, #[]⟩,
  ⟨.none, none, (cdD 12), #[]⟩,
  ⟨.type "code", none, .fields [(tx "_law_distinct" 2255), (tx "_law_distinct" 2256), (tx "/claim/cut.py" 2257), .int 36 0, .int 1 0, .int 0 0, .int 0 0, .int 3 0, .ref 108, .bool true, .int 181 0, .ref 109, .none, .ref 110, .ref 111, .ref 112, .int 2261 0, .int 36 0, (tx "/claim/cut.py" 2262)].toArray, #[]⟩,
  ⟨.type "function", none, (fnD 12 ((tx "law_mq0272_01" 2235)) (.ref 113)), #[]⟩,
  ⟨.type "tuple", none, .seq [].toArray 0, #[]⟩,
  ⟨.none, none, .fields [].toArray, #[]⟩,
  ⟨.type "tuple", none, .seq [(tx "signs" 2267), (tx "pairs" 2268), (tx "c" 2269)].toArray 0, #[]⟩,
  ⟨.type "tuple", none, .seq [].toArray 0, #[]⟩,
  ⟨.none, none, (cdD 13), #[]⟩,
  ⟨.type "code", none, .fields [(tx "_law_pairs" 2264), (tx "_law_pairs" 2265), (tx "/claim/cut.py" 2266), .int 42 0, .int 1 0, .int 0 0, .int 0 0, .int 3 0, .ref 115, .bool true, .int 181 0, .ref 116, .none, .ref 117, .ref 118, .ref 119, .int 2270 0, .int 42 0, (tx "/claim/cut.py" 2271)].toArray, #[]⟩,
  ⟨.type "function", none, (fnD 13 ((tx "law_mq0272_01" 2235)) (.ref 120)), #[]⟩,
  ⟨.type "tuple", none, .seq [].toArray 0, #[]⟩,
  ⟨.none, none, .fields [].toArray, #[]⟩,
  ⟨.type "tuple", none, .seq [(tx "step" 2276)].toArray 0, #[]⟩,
  ⟨.type "tuple", none, .seq [].toArray 0, #[]⟩,
  ⟨.none, none, (cdD 14), #[]⟩,
  ⟨.type "code", none, .fields [(tx "_law_width" 2273), (tx "_law_width" 2274), (tx "/claim/cut.py" 2275), .int 47 0, .int 1 0, .int 0 0, .int 0 0, .int 3 0, .ref 122, .bool true, .int 181 0, .ref 123, .none, .ref 124, .ref 125, .ref 126, .int 2277 0, .int 47 0, (tx "/claim/cut.py" 2278)].toArray, #[]⟩,
  ⟨.type "function", none, (fnD 14 ((tx "law_mq0272_01" 2235)) (.ref 127)), #[]⟩,
  ⟨.type "tuple", none, .seq [].toArray 0, #[]⟩,
  ⟨.none, none, .fields [].toArray, #[]⟩,
  ⟨.type "tuple", none, .seq [(tx "text" 2283), (tx "step" 2284), (tx "signs" 2285)].toArray 0, #[]⟩,
  ⟨.type "tuple", none, .seq [].toArray 0, #[]⟩,
  ⟨.none, none, (cdD 15), #[]⟩,
  ⟨.type "code", none, .fields [(tx "_law_done" 2280), (tx "_law_done" 2281), (tx "/claim/cut.py" 2282), .int 49 0, .int 2 0, .int 0 0, .int 0 0, .int 3 0, .ref 129, .bool true, .int 181 0, .ref 130, .none, .ref 131, .ref 132, .ref 133, .int 2286 0, .int 49 0, (tx "/claim/cut.py" 2287)].toArray, #[]⟩,
  ⟨.type "function", none, (fnD 15 ((tx "law_mq0272_01" 2235)) (.ref 134)), #[]⟩,
  ⟨.type "tuple", none, .seq [].toArray 0, #[]⟩,
  ⟨.none, none, .fields [].toArray, #[]⟩,
  ⟨.type "tuple", none, .seq [(tx "signs" 2292), (tx "width" 2293), (tx "head" 2294), (tx "tail" 2295)].toArray 0, #[]⟩,
  ⟨.type "tuple", none, .seq [].toArray 0, #[]⟩,
  ⟨.none, none, (cdD 16), #[]⟩,
  ⟨.type "code", none, .fields [(tx "_law_fit" 2289), (tx "_law_fit" 2290), (tx "/claim/cut.py" 2291), .int 56 0, .int 2 0, .int 0 0, .int 0 0, .int 3 0, .ref 136, .bool true, .int 181 0, .ref 137, .none, .ref 138, .ref 139, .ref 140, .int 2296 0, .int 56 0, (tx "/claim/cut.py" 2297)].toArray, #[]⟩,
  ⟨.type "function", none, (fnD 16 ((tx "law_mq0272_01" 2235)) (.ref 141)), #[]⟩,
  ⟨.type "tuple", none, .seq [].toArray 0, #[]⟩,
  ⟨.none, none, .fields [].toArray, #[]⟩,
  ⟨.none, none, (cdD 17), #[]⟩,
  ⟨.type "code", none, .fields [(tx "_law_due" 2299), (tx "_law_due" 2300), (tx "/claim/cut.py" 2301), .int 67 0, .int 3 0, .int 0 0, .int 0 0, .int 3 0, .ref 143, .bool true, .int 181 0, .ref 144, .none, .none, .none, .ref 145, .int 2302 0, .int 67 0, (tx "/claim/cut.py" 2303)].toArray, #[]⟩,
  ⟨.type "function", none, (fnD 17 ((tx "law_mq0272_01" 2235)) (.ref 146)), #[]⟩,
  ⟨.type "tuple", none, .seq [].toArray 0, #[]⟩,
  ⟨.none, none, .fields [].toArray, #[]⟩,
  ⟨.none, none, (cdD 18), #[]⟩,
  ⟨.type "code", none, .fields [(tx "_law_chain" 2305), (tx "_law_chain" 2306), (tx "/claim/cut.py" 2307), .int 71 0, .int 3 0, .int 0 0, .int 0 0, .int 3 0, .ref 148, .bool true, .int 181 0, .ref 149, .none, .none, .none, .ref 150, .int 2308 0, .int 71 0, (tx "/claim/cut.py" 2309)].toArray, #[]⟩,
  ⟨.type "function", none, (fnD 18 ((tx "law_mq0272_01" 2235)) (.ref 151)), #[]⟩,
  ⟨.type "tuple", none, .seq [].toArray 0, #[]⟩,
  ⟨.none, none, .fields [].toArray, #[]⟩,
  ⟨.none, none, (cdD 19), #[]⟩,
  ⟨.type "code", none, .fields [(tx "law" 2311), (tx "law" 2312), (tx "/claim/cut.py" 2313), .int 80 0, .int 1 0, .int 0 0, .int 0 0, .int 3 0, .ref 153, .bool true, .int 181 0, .ref 154, .none, .none, .none, .ref 155, .int 2314 0, .int 80 0, (tx "/claim/cut.py" 2315)].toArray, #[]⟩,
  ⟨.type "function", none, (fnD 19 ((tx "law_mq0272_01" 2235)) (.ref 156)), #[]⟩]
def sh (objs : List Obj) (tk : Nat) (os : OsState) : Shared := ⟨⟨objs.toArray, {}⟩, #[], {}, tk, os⟩
def ENV : Env := { scope := pw.main.scope, locals := mainNs, globals := mainNs, cells := [], code := .ref 13, frame := some 14 }
def CE : Code := .body (behindTheImports pw) ENV
def pz : Pos := ⟨0, 0, 0, 0⟩
abbrev BF : List Frame := [topFrame pz]
abbrev ANN : Option Value := some (.ref 6)
def Sa (P : Params) (os : OsState) : Shared := sh (low P (tx "__main__" 164) 0 ++ (oA []).take 4) 187 os
def S1 (P : Params) (os : OsState) : Shared := sh (low P (tx "cpy313.stringprep" 207) 2 ++ oA (f12.take 6)) 209 os
def S2 (P : Params) (os : OsState) : Shared := sh (low P (tx "cpy313.stringprep" 207) 3 ++ oA (f12.take 6) ++ oB P) 269 os
def S3 (P : Params) (os : OsState) : Shared := sh (low P (tx "cpy313.stringprep" 207) 4 ++ oA (f12.take 9) ++ oB P ++ oC) 276 os

theorem pre_ok (w : World) (os : OsState) : topGo treeTable pw w 11 ANN 12 ⟨boot_heap w.params, #[], boot_drawn, boot_toks, os⟩ (topStub pw) = some (Sa w.params os, ⟨denote treeTable CE, CE, pz, BF⟩) := by
  kernel_rfl
theorem block_ok (w : World) (os : OsState) : segRun treeTable pw w 11 ANN 1 1 (Sa w.params os) (blockOf (behindTheImports pw) ENV CE pz BF) = some (.next, Sa w.params os, CE, pz) := by
  kernel_rfl
theorem g03_ok (w : World) (os : OsState) : segRun treeTable pw w 11 ANN 1 81 (Sa w.params os) (piecesOf (pw.main.body.take 4) ENV CE pz BF) = some (.next, S1 w.params os, CE, ⟨13, 0, 13, 8⟩) := by
  show segRun treeTable pw w 11 ANN 1 81 (Sa w.params os) ⟨(execs (pw.main.body.take 4) ENV).wrap doneF deadEnd id id, CE, pz, BF⟩ = _
  rw [PySem.W.Fast.te14374325043358763698, PySem.W.Fast.te14364793385576792824, PySem.W.Fast.te12563942051412417395]
  kernel_rfl
theorem g4_raises (w : World) (os : OsState) : segRun treeTable pw (w.withFollow "special-get-raises" true) 11 ANN 1 999 (S1 w.params os) (piecesOf (stAt 4) ENV CE ⟨13, 0, 13, 8⟩ BF) = some (.next, S2 w.params os, CE, ⟨14, 0, 14, 6⟩) := by
  show segRun treeTable pw _ 11 ANN 1 999 (S1 w.params os) ⟨(execs (stAt 4) ENV).wrap doneF deadEnd id id, CE, ⟨13, 0, 13, 8⟩, BF⟩ = _
  rw [PySem.W.Fast.te14374325043358763698, PySem.W.Fast.te14364793385576792824, PySem.W.Fast.te12563942051412417395]
  kernel_rfl
theorem g4_quiet (w : World) (os : OsState) : segRun treeTable pw (w.withFollow "special-get-raises" false) 11 ANN 1 999 (S1 w.params os) (piecesOf (stAt 4) ENV CE ⟨13, 0, 13, 8⟩ BF) = some (.next, S2 w.params os, CE, ⟨14, 0, 14, 6⟩) := by
  show segRun treeTable pw _ 11 ANN 1 999 (S1 w.params os) ⟨(execs (stAt 4) ENV).wrap doneF deadEnd id id, CE, ⟨13, 0, 13, 8⟩, BF⟩ = _
  rw [PySem.W.Fast.te14374325043358763698, PySem.W.Fast.te14364793385576792824, PySem.W.Fast.te12563942051412417395]
  kernel_rfl
theorem g4_follow (w : World) (os : OsState) (b : Bool) : segRun treeTable pw (w.withFollow "special-get-raises" b) 11 ANN 1 999 (S1 w.params os) (piecesOf (stAt 4) ENV CE ⟨13, 0, 13, 8⟩ BF) = some (.next, S2 w.params os, CE, ⟨14, 0, 14, 6⟩) := by
  cases b
  · exact g4_quiet w os
  · exact g4_raises w os
end
end Mine
end
section
open PySem PySem.W PyProof.Rows
set_option Elab.async false
set_option maxRecDepth 100000
set_option maxHeartbeats 0
namespace Mine
noncomputable section

abbrev SR (w : World) := segRun treeTable pw w 11 ANN 1

theorem segRun_mono {tb : String → Option Builtin} {p : Program} {w : World} {n₀ : Nat} {ann : Option Value} {b : Nat} (k : Nat) : ∀ (n : Nat) (s : Shared) (t : Thread) (r : Flow × Shared × Code × Pos),
    segRun tb p w n₀ ann b n s t = some r → segRun tb p w n₀ ann b (n + k) s t = some r
  | 0, _, _, _, h => by simp [segRun] at h
  | n + 1, s, t, r, h => by
    rw [show n + 1 + k = n + k + 1 by omega]
    unfold segRun at h ⊢
    cases ht : endAt b t with
    | some f => rw [ht] at h; exact h
    | none =>
      rw [ht] at h
      cases hk : stepOk n₀ ann t with
      | false => rw [hk] at h; cases h
      | true =>
        rw [hk] at h
        cases hs : step (denote tb) p w s t with
        | halt o s' => rw [hs] at h; cases h
        | go s' t' => rw [hs] at h; exact segRun_mono k n s' t' r h

def Goes {α : Type} (w : World) (n : Nat) (m : Sem α) (s : Shared) (p : Pos) (a : α) (s' : Shared) (p' : Pos) : Prop :=
  ∀ (K : α → Sem Fin) (H : Value → Sem Fin) (gd : Bool → Bool) (lv : List Value → List Value) (N : Nat) (r : Flow × Shared × Code × Pos),
    SR w N s' ⟨K a, CE, p', BF⟩ = some r → SR w (n + N) s ⟨m.wrap K H gd lv, CE, p, BF⟩ = some r

section
variable {α β : Type} {w : World} {n k : Nat} {s s₁ s₂ : Shared} {p p₁ p₂ : Pos}

theorem Goes.le {m : Sem α} {a : α} (h : Goes w n m s p a s₁ p₁) (l : n ≤ k) : Goes w k m s p a s₁ p₁ := fun K H gd lv N r e => by
  have := segRun_mono (k - n) _ _ _ _ (h K H gd lv N r e)
  rwa [show n + N + (k - n) = k + N by omega] at this
theorem Goes.pure (a : α) : Goes w 0 (Pure.pure a : Sem α) s p a s p := fun K H gd lv N r e => by
  rw [Nat.zero_add]; exact e
theorem Goes.bind {m : Sem α} {f : α → Sem β} {a : α} {b : β} (h1 : Goes w n m s p a s₁ p₁) (h2 : Goes w k (f a) s₁ p₁ b s₂ p₂) : Goes w (n + k) (m >>= f) s p b s₂ p₂ := fun K H gd lv N r e => by
  rw [Sem.bind_eq_wrap', Sem.wrap_wrap, Nat.add_assoc]
  exact h1 _ _ _ _ (k + N) r (h2 K H gd lv N r e)
theorem Goes.keep {m : Sem α} {a : α} (vs : List Value) (h : Goes w n m s p a s₁ p₁) : Goes w n (m.keep vs) s p a s₁ p₁ := fun K H gd lv N r e => by
  rw [Sem.keep_eq_wrap, Sem.wrap_wrap]
  exact h _ _ _ _ N r e
theorem Goes.holding {m : Sem α} {a : α} (vs : List Value) (h : Goes w n m s p a s₁ p₁) : Goes w n (holding vs m) s p a s₁ p₁ := by
  unfold PySem.holding
  split
  · exact h
  · exact h.keep _
theorem Goes.onRaise {m : Sem α} {a : α} (f : Value → Sem Unit) (h : Goes w n m s p a s₁ p₁) : Goes w n (m.onRaise f) s p a s₁ p₁ := fun K H gd lv N r e => by
  rw [Sem.onRaise_eq_wrap, Sem.wrap_wrap]
  exact h _ _ _ _ N r e

theorem Goes.rule (t : String) : Goes w 1 (PySem.rule t) s p () s p := fun K H gd lv N r e => by
  rw [Nat.add_comm]; exact e
theorem Goes.standAt (q : Pos) : Goes w 1 (PySem.standAt q) s p () s q := fun K H gd lv N r e => by
  rw [Nat.add_comm]; exact e
theorem Goes.fresh : Goes w 1 PySem.fresh s p s.toks { s with toks := s.toks + 1 } p := fun K H gd lv N r e => by
  rw [Nat.add_comm]; exact e
theorem Goes.alloc (o : Obj) : Goes w 1 (PySem.alloc o) s p s.heap.objs.size { s with heap := s.heap.push o } p := fun K H gd lv N r e => by
  rw [Nat.add_comm]; exact e
theorem Goes.loadPart {a : Addr} {o : Obj} (part : Option Value) (h : s.heap.get? a = some o) : Goes w 1 (PySem.loadPart a part) s p o s p := fun K H gd lv N r e => by
  rw [Nat.add_comm]
  obtain ⟨heap, gens, drawn, toks, os⟩ := s
  show (match (match heap.get? a with | some o => Step.go _ _ | none => _) with | .go s' t' => SR w N s' t' | .halt _ _ => none) = _
  dsimp only at h
  rw [h]
  exact e
theorem Goes.load {a : Addr} {o : Obj} (h : s.heap.get? a = some o) : Goes w 1 (PySem.load a) s p o s p := Goes.loadPart none h
theorem Goes.updatePart {a : Addr} {o : Obj} (part : Option Value) (f : Obj → Obj) (h : s.heap.get? a = some o) (ha : Nat.ble 11 a = true) : Goes w 1 (PySem.updatePart a part f) s p () { s with heap := s.heap.update a f } p := fun K H gd lv N r e => by
  rw [Nat.add_comm]
  obtain ⟨heap, gens, drawn, toks, os⟩ := s
  dsimp only at h e ⊢
  unfold SR segRun
  have ok : stepOk 11 ANN ⟨((PySem.updatePart a part f).wrap K H gd lv), CE, p, BF⟩ = true := by
    show (_ && (Nat.ble 11 a || _ || _ || _)) = true
    rw [ha]; rfl
  rw [ok]
  show (match (if (heap.get? a).isSome then Step.go _ _ else _) with | .go s' t' => SR w N s' t' | .halt _ _ => none) = _
  rw [h]
  exact e
end
end
end Mine
end
section
open PySem PySem.W PyProof.Rows
set_option Elab.async false
set_option maxRecDepth 100000
set_option maxHeartbeats 0
namespace Mine
noncomputable section
theorem hash_steps (w : World) (b : Bool) (heap : Heap) (gens : Array GenState) (drawn : Drawn) (toks : Nat) (os : OsState) (k : Int) (t : Tok) (K : Int → Sem Fin) (H : Value → Sem Fin) (gd : Bool → Bool) (lv : List Value → List Value) (p : Pos) :
    segGo treeTable pw (w.withFollow "special-get-raises" b) 11 ANN 1 5 ⟨heap, gens, drawn, toks, os⟩ ⟨(pyHash (.int k t)).wrap K H gd lv, CE, p, BF⟩ =
      some (⟨heap, gens, drawn, toks + 1, os⟩, ⟨(pyHashByItsType.reduced (rawHash k)).wrap K H gd lv, CE, p, BF⟩) := by
  cases b <;> kernel_rfl
theorem rawHash_small {k : Int} (h0 : 0 ≤ k) (h1 : k < 2305843009213693951) : rawHash k = k := by
  have e : ((k.natAbs % (2 ^ 61 - 1 : Nat) : Nat) : Int) = k := by omega
  unfold rawHash
  dsimp only
  rw [show ((k.natAbs : Int) % ((2 ^ 61 - 1 : Nat) : Int)) = k by omega, if_neg (by omega : ¬ k < 0), if_neg (by simp only [beq_iff_eq]; omega)]
theorem Goes.hash {w : World} {s : Shared} {p : Pos} {k : Int} {t : Tok} (h0 : 0 ≤ k) (h1 : k < 2305843009213693951) : Goes w 5 (pyHash (.int k t)) s p k { s with toks := s.toks + 1 } p := fun K H gd lv N r e => by
  obtain ⟨heap, gens, drawn, toks, os⟩ := s
  have g := hash_steps w (w.params.followText "special-get-raises") heap gens drawn toks os k t K H gd lv p
  rw [World.withFollow_self] at g
  refine seg_go g ?_
  have re : pyHashByItsType.reduced (rawHash k) = (Pure.pure k : Sem Int) := by
    rw [rawHash_small h0 h1]
    unfold pyHashByItsType.reduced
    rw [if_pos (by simp only [Bool.and_eq_true, decide_eq_true_eq]; omega), if_neg (by simp only [beq_iff_eq]; omega)]
  rw [re]
  exact e

/- a heap as a written list -/
def dO (es : List DictEntry) (n : Nat) : Obj := ⟨.type "dict", none, .dict es.toArray n, #[]⟩
abbrev hp (objs : List Obj) : Heap := ⟨objs.toArray, {}⟩
theorem hp_get {A B : List Obj} {es : List DictEntry} {n d : Nat} (hd : d = A.length) : (hp (A ++ dO es n :: B)).get? d = some (dO es n) := by
  subst hd
  unfold Heap.get?
  simp only [List.getElem?_toArray, List.getElem?_append_right (Nat.le_refl _), Nat.sub_self, List.getElem?_cons_zero]
  rfl
theorem modify_mid {α : Type} (f : α → α) (x : α) (B : List α) : ∀ A : List α, (A ++ x :: B).modify A.length f = A ++ f x :: B
  | [] => rfl
  | a :: A => by simp only [List.cons_append, List.length_cons, List.modify_succ_cons, modify_mid f x B A]
theorem hp_update {A B : List Obj} {x : Obj} {d : Nat} (hd : d = A.length) (f : Obj → Obj) : (hp (A ++ x :: B)).update d f = hp (A ++ f x :: B) := by
  subst hd
  show (⟨((A ++ x :: B).toArray).modify A.length f, {}⟩ : Heap) = _
  rw [List.modify_toArray, modify_mid]
theorem hp_push (objs : List Obj) (o : Obj) : (hp objs).push o = hp (objs ++ [o]) := by
  show (⟨objs.toArray.push o, {}⟩ : Heap) = _
  rw [List.push_toArray]

section
variable {w : World} {p : Pos} {A B : List Obj} {es : List DictEntry} {n d tk : Nat} {os : OsState} {k : Int} {t : Tok} {v : Value}

def fresh? (k : Int) (es : List DictEntry) : Prop := ∀ e ∈ es, e.hash ≠ k

theorem places_nil {es : List DictEntry} {k : Int} (h : fresh? k es) : placesWithHash es.toArray.size (fun i => es.toArray[i]?.map (·.hash)) k = [] := by
  unfold placesWithHash
  rw [List.filter_eq_nil_iff]
  intro i _
  show ¬((es.toArray[i]?.map (·.hash)) == some k) = true
  rw [List.getElem?_toArray]
  cases hx : es[i]? with
  | none => simp
  | some e => simpa using h e (List.mem_of_getElem? hx)

theorem Goes.find (hd : d = A.length) (hf : fresh? k es) : Goes w 1 (dictFind d (.int k t) k) (sh (A ++ dO es n :: B) tk os) p none (sh (A ++ dO es n :: B) tk os) p := by
  unfold dictFind
  refine Goes.holding _ ?_
  refine Goes.bind (n := 1) (k := 0) (a := es.toArray) (s₁ := sh (A ++ dO es n :: B) tk os) (p₁ := p) ?_ ?_
  · unfold dictEntries
    exact Goes.bind (n := 1) (k := 0) (Goes.loadPart _ (hp_get hd)) (Goes.pure _)
  · dsimp only
    rw [places_nil hf]
    exact Goes.pure none

theorem Goes.pushKey (hd : d = A.length) (ha : Nat.ble 11 d = true) (hz : es.length ≤ 100000) (part : Option Value) (e : DictEntry) :
    Goes w 3 (updateDictKeys d (·.push e) part) (sh (A ++ dO es n :: B) tk os) p () (sh (A ++ dO (es ++ [e]) (n + 1) :: B) tk os) p := by
  have he : (Obj.mapDictKeys (·.push e)) (dO es n) = dO (es ++ [e]) (n + 1) := by
    show (⟨.type "dict", none, .dict (es.toArray.push e) (n + 1), #[]⟩ : Obj) = _
    rw [List.push_toArray]; rfl
  unfold updateDictKeys
  refine Goes.bind (n := 1) (k := 2) (Goes.loadPart part (hp_get hd)) ?_
  refine Goes.bind (n := 1) (k := 1) (s₁ := sh (A ++ dO (es ++ [e]) (n + 1) :: B) tk os) (p₁ := p) (a := ()) ?_ ?_
  · have := Goes.updatePart (w := w) (s := sh (A ++ dO es n :: B) tk os) (p := p) part (Obj.mapDictKeys (·.push e)) (hp_get hd) ha
    rw [show (sh (A ++ dO es n :: B) tk os).heap = hp (A ++ dO es n :: B) from rfl, hp_update hd, he] at this
    exact this
  · unfold lookBehind
    refine Goes.bind (n := 1) (k := 0) (Goes.loadPart part (hp_get hd)) ?_
    have : (dO (es ++ [e]) (n + 1)).data.pastItsLine = none := by
      show (if (es ++ [e]).toArray.size > sizeLine + 1 then some "dict:memory" else none) = none
      rw [if_neg]
      rw [List.size_toArray, List.length_append, sizeLine_eq]
      simp; omega
    rw [this]
    exact Goes.pure ()

theorem Goes.put (hd : d = A.length) (ha : Nat.ble 11 d = true) (hz : es.length ≤ 100000) (hf : fresh? k es) :
    Goes w 4 (dictPut d k (.int k t) v) (sh (A ++ dO es n :: B) tk os) p () (sh (A ++ dO (es ++ [⟨k, .int k t, v⟩]) (n + 1) :: B) tk os) p := by
  unfold dictPut
  refine Goes.bind (n := 1) (k := 3) (Goes.find hd hf) ?_
  exact Goes.pushKey hd ha hz none _

theorem Goes.set (hd : d = A.length) (ha : Nat.ble 11 d = true) (hz : es.length ≤ 100000) (hf : fresh? k es) (h0 : 0 ≤ k) (h1 : k < 2305843009213693951) :
    Goes w 10 (dictSet d (.int k t) v) (sh (A ++ dO es n :: B) tk os) p () (sh (A ++ dO (es ++ [⟨k, .int k t, v⟩]) (n + 1) :: B) (tk + 1) os) p := by
  unfold dictSet
  refine Goes.holding _ ?_
  refine Goes.bind (n := 5) (k := 5) (Goes.hash h0 h1) ?_
  unfold dictSetHashed
  refine Goes.holding _ ?_
  refine Goes.bind (n := 1) (k := 4) (Goes.find (tk := tk + 1) hd hf) ?_
  refine Goes.bind (n := 1) (k := 3) (Goes.rule _) ?_
  exact Goes.pushKey hd ha hz _ _
end

theorem Goes.forIn {α β : Type} {w : World} {f : α → β → Sem (ForInStep β)} (b : Nat → β) (st : Nat → Shared) (ps : Nat → Pos) (c : Nat) : ∀ (l : List α) (k : Nat),
    (∀ i x, l[i]? = some x → Goes w c (f x (b (k + i))) (st (k + i)) (ps (k + i)) (.yield (b (k + i + 1))) (st (k + i + 1)) (ps (k + i + 1))) →
    Goes w (c * l.length) (ForIn.forIn l (b k) f) (st k) (ps k) (b (k + l.length)) (st (k + l.length)) (ps (k + l.length))
  | [], k, _ => by
    rw [List.forIn_nil]
    exact Goes.pure _
  | x :: l, k, h => by
    rw [List.forIn_cons]
    have e := h 0 x rfl
    refine Goes.le (Goes.bind (n := c) (k := c * l.length) e ?_) (by rw [List.length_cons, Nat.mul_succ]; omega)
    dsimp only
    have ih := Goes.forIn b st ps c l (k + 1) (fun i y hy => by
      have := h (i + 1) y (by simpa using hy)
      rwa [show k + (i + 1) = k + 1 + i by omega] at this)
    rw [List.length_cons, show k + (l.length + 1) = k + 1 + l.length by omega]
    exact ih

theorem Goes.loop {α β : Type} {w : World} {f : α → β → Sem (ForInStep β)} {l : List α} {b₀ b₁ : β} {s₀ s₁ : Shared} {p₀ p₁ : Pos} {n : Nat} (b : Nat → β) (st : Nat → Shared) (ps : Nat → Pos) (c : Nat)
    (e1 : b 0 = b₀) (e2 : st 0 = s₀) (e3 : ps 0 = p₀) (e4 : b l.length = b₁) (e5 : st l.length = s₁) (e6 : ps l.length = p₁) (e7 : c * l.length ≤ n)
    (h : ∀ i x, l[i]? = some x → Goes w c (f x (b i)) (st i) (ps i) (.yield (b (i + 1))) (st (i + 1)) (ps (i + 1))) : Goes w n (ForIn.forIn l b₀ f) s₀ p₀ b₁ s₁ p₁ := by
  subst e1 e2 e3 e4 e5 e6
  have := Goes.forIn b st ps c l 0 (fun i x hx => by simpa only [Nat.zero_add] using h i x hx)
  simp only [Nat.zero_add] at this
  exact this.le e7
end
end Mine
end
section
open PySem PySem.W PyProof.Rows
set_option Elab.async false
set_option maxRecDepth 100000
set_option maxHeartbeats 0
namespace Mine
noncomputable section

def entAt (tk : Nat) (j : Nat) (x : Int × Str) : DictEntry := ⟨x.1, .int x.1 (tk + 3 * j), .str x.2 (tk + 3 * j + 1)⟩
def entsOf (tk : Nat) (l : List (Int × Str)) : List DictEntry := l.mapIdx (entAt tk)
def pr (dp : Pos) (x : Int × Str) : Sem Value × Sem Value := (mkInt x.1, do let v ← mkText x.2; standAt dp; pure v)
structure Fine (l : List (Int × Str)) : Prop where
  nodup : (l.map (·.1)).Nodup
  small : ∀ x ∈ l, 0 ≤ x.1 ∧ x.1 < 2305843009213693951

theorem ents_length (tk : Nat) (l : List (Int × Str)) : (entsOf tk l).length = l.length := by simp [entsOf]
theorem ents_get {tk : Nat} {l : List (Int × Str)} {j : Nat} {x : Int × Str} (h : l[j]? = some x) : (entsOf tk l)[j]? = some (entAt tk j x) := by
  simp [entsOf, h]
theorem take_snoc {α : Type} {l : List α} {j : Nat} {x : α} (h : l[j]? = some x) : l.take (j + 1) = l.take j ++ [x] := by
  rw [List.take_add_one, h]; rfl
theorem ents_fresh {tk : Nat} {l : List (Int × Str)} (hl : Fine l) {j : Nat} {x : Int × Str} (h : l[j]? = some x) : fresh? x.1 ((entsOf tk l).take j) := by
  intro e he
  obtain ⟨i, hi, rfl⟩ := List.getElem_of_mem he
  have hij : i < j := by have := hi; rw [List.length_take] at this; omega
  rw [List.getElem_take]
  obtain ⟨hj, rfl⟩ := List.getElem?_eq_some_iff.mp h
  simp only [entsOf, List.getElem_mapIdx, entAt]
  intro e
  have := (List.pairwise_iff_getElem.mp hl.nodup) i j (by rw [List.length_map]; omega) (by rw [List.length_map]; exact hj) hij
  rw [List.getElem_map, List.getElem_map] at this
  exact this e

section
variable {w : World} {dp : Pos} {tk : Nat} {os : OsState} {objs : List Obj}

theorem goes_pair {A B : List Obj} {es : List DictEntry} {n d tk : Nat} {x : Int × Str} (hd : d = A.length) (ha : Nat.ble 11 d = true) (hz : es.length ≤ 100000) (hf : fresh? x.1 es) (h0 : 0 ≤ x.1 ∧ x.1 < 2305843009213693951) :
    Goes w 13 (do let kv ← (pr dp x).1; let vv ← holding [kv] (pr dp x).2; holding [kv, vv] (dictSet d kv vv); pure (ForInStep.yield PUnit.unit)) (sh (A ++ dO es n :: B) tk os) dp (ForInStep.yield PUnit.unit) (sh (A ++ dO (es ++ [⟨x.1, .int x.1 tk, .str x.2 (tk + 1)⟩]) (n + 1) :: B) (tk + 3) os) dp := by
  refine Goes.bind (n := 1) (k := 12) (Goes.bind (n := 1) (k := 0) Goes.fresh (Goes.pure _)) ?_
  refine Goes.bind (n := 2) (k := 10) (a := .str x.2 (tk + 1)) (s₁ := sh (A ++ dO es n :: B) (tk + 2) os) (p₁ := dp) ?_ ?_
  · refine Goes.holding _ ?_
    refine Goes.bind (n := 1) (k := 1) (Goes.bind (n := 1) (k := 0) Goes.fresh (Goes.pure _)) ?_
    exact Goes.bind (n := 1) (k := 0) (Goes.standAt dp) (Goes.pure _)
  · exact Goes.bind (n := 10) (k := 0) (Goes.holding _ (Goes.set hd ha hz hf h0.1 h0.2)) (Goes.pure _)

theorem goes_subDict {l : List (Int × Str)} (hl : Fine l) (h15 : 15 < l.length) (h100 : l.length ≤ 100) (ho : 11 ≤ objs.length) :
    Goes w (13 * l.length + 2) (subDict (l.map (pr dp))) (sh objs tk os) dp objs.length (sh (objs ++ [dO (entsOf tk l) l.length]) (tk + 3 * l.length) os) dp := by
  unfold subDict
  refine Goes.le (Goes.bind (n := 1) (k := 13 * l.length + 1) (a := objs.length) (s₁ := sh (objs ++ [dO [] 0]) tk os) (p₁ := dp) ?_ ?_) (by omega)
  · have := Goes.alloc (w := w) (s := sh objs tk os) (p := dp) { cls := .type "dict", data := .dict #[] }
    rw [show (sh objs tk os).heap = hp objs from rfl, hp_push] at this
    have e : (hp objs).objs.size = objs.length := List.size_toArray
    rw [e] at this
    exact this
  · refine Goes.bind (n := 13 * l.length + 1) (k := 0) (a := ()) (s₁ := sh (objs ++ [dO (entsOf tk l) l.length]) (tk + 3 * l.length) os) (p₁ := dp) ?_ (Goes.pure _)
    refine Goes.holding _ ?_
    rw [List.length_map, if_neg (by omega)]
    refine Goes.le (Goes.bind (n := 1) (k := 13 * l.length) (Goes.rule _) ?_) (by omega)
    refine Goes.le (Goes.bind (n := 13 * l.length) (k := 0) (a := PUnit.unit) (s₁ := sh (objs ++ [dO (entsOf tk l) l.length]) (tk + 3 * l.length) os) (p₁ := dp) ?_ (Goes.pure _)) (by omega)
    have := Goes.forIn (w := w) (fun _ => PUnit.unit) (fun j => sh (objs ++ [dO ((entsOf tk l).take j) j]) (tk + 3 * j) os) (fun _ => dp) 13 (l.map (pr dp)) 0
      (f := fun (x : Sem Value × Sem Value) (_ : PUnit) => match x with | (k, v) => (do let kv ← k; let vv ← holding [kv] v; holding [kv, vv] (dictSet objs.length kv vv); pure (ForInStep.yield PUnit.unit) : Sem (ForInStep PUnit))) ?_
    · simp only [List.length_map, Nat.zero_add, List.take_zero] at this
      rw [show (entsOf tk l).take l.length = entsOf tk l by rw [← ents_length tk l, List.take_length]] at this
      exact this
    · intro j x hx
      rw [List.getElem?_map] at hx
      obtain ⟨y, hy, rfl⟩ := Option.map_eq_some_iff.mp hx
      have hj : j < l.length := (List.getElem?_eq_some_iff.mp hy).1
      have g := goes_pair (w := w) (dp := dp) (os := os) (A := objs) (B := []) (es := (entsOf tk l).take j) (n := j) (d := objs.length) (tk := tk + 3 * j) (x := y) rfl (Nat.ble_eq.mpr ho) (by rw [List.length_take, ents_length]; omega) (ents_fresh hl hy) (hl.small y (List.mem_of_getElem? hy))
      simp only [Nat.zero_add]
      rw [take_snoc (ents_get hy)]
      exact g
end
end
end Mine
end
section
open PySem PySem.W PyProof.Rows
set_option Elab.async false
set_option maxRecDepth 100000
set_option maxHeartbeats 0
namespace Mine
noncomputable section
theorem dict_sub : isSubtype (.type "dict") (.type "dict") = (pure true : Sem Bool) := by kernel_rfl
theorem dict_iter : typeLookup (.type "dict") "__iter__" = (pure (some (.builtin "dict.__iter__")) : Sem (Option Value)) := by kernel_rfl
theorem dict_iter_is : (some (Value.builtin "dict.__iter__") == some (Value.builtin "dict.__iter__")) = true := by decide

section
variable {w : World} {p : Pos} {A B : List Obj} {es : List DictEntry} {n d tk : Nat} {os : OsState}
theorem Goes.entries (hd : d = A.length) (part : Option Value) : Goes w 1 (dictEntries d part) (sh (A ++ dO es n :: B) tk os) p es.toArray (sh (A ++ dO es n :: B) tk os) p := by
  unfold dictEntries
  exact Goes.bind (n := 1) (k := 0) (Goes.loadPart _ (hp_get hd)) (Goes.pure _)
theorem Goes.epoch (hd : d = A.length) (part : Option Value) : Goes w 1 (dictEpoch d part) (sh (A ++ dO es n :: B) tk os) p n (sh (A ++ dO es n :: B) tk os) p := by
  unfold dictEpoch
  exact Goes.bind (n := 1) (k := 0) (Goes.loadPart _ (hp_get hd)) (Goes.pure _)
theorem Goes.isDict (hd : d = A.length) : Goes w 1 (isInstance (.ref d) (.type "dict")) (sh (A ++ dO es n :: B) tk os) p true (sh (A ++ dO es n :: B) tk os) p := by
  unfold isInstance
  refine Goes.bind (n := 1) (k := 0) (a := .type "dict") (s₁ := sh (A ++ dO es n :: B) tk os) (p₁ := p) ?_ ?_
  · exact Goes.bind (n := 1) (k := 0) (Goes.loadPart _ (hp_get hd)) (Goes.pure _)
  · rw [dict_sub]; exact Goes.pure _
theorem Goes.iterOf (hd : d = A.length) : Goes w 1 (specialOf (.ref d) "__iter__") (sh (A ++ dO es n :: B) tk os) p (some (.builtin "dict.__iter__")) (sh (A ++ dO es n :: B) tk os) p := by
  unfold specialOf
  refine Goes.bind (n := 1) (k := 0) (a := .type "dict") (s₁ := sh (A ++ dO es n :: B) tk os) (p₁ := p) ?_ ?_
  · exact Goes.bind (n := 1) (k := 0) (Goes.loadPart _ (hp_get hd)) (Goes.pure _)
  · rw [dict_iter]; exact Goes.pure _
end

def IntEnt (e : DictEntry) : Prop := ∃ t, e.key = .int e.hash t

section
variable {w : World} {p : Pos} {A B : List Obj} {M E : List DictEntry} {m e d a tk : Nat} {os : OsState}
theorem resh (A B : List Obj) (x y : Obj) : A ++ x :: (B ++ [y]) = (A ++ x :: B) ++ y :: [] := by simp

theorem goes_merge (hd : d = A.length) (h11 : 11 ≤ d) (hz : M.length + E.length ≤ 100000) (hM : M ≠ []) (hda : a = (A ++ dO M m :: B).length) (hi : ∀ X ∈ E, IntEnt X) (hf : ∀ i X, E[i]? = some X → fresh? X.hash (M ++ E.take i)) :
    Goes w (7 * E.length + 5) (mergeMapping d (.ref a) false) (sh (A ++ dO M m :: (B ++ [dO E e])) tk os) p () (sh (A ++ dO (M ++ E) (m + E.length) :: (B ++ [dO E e])) tk os) p := by
  unfold mergeMapping
  refine Goes.le (Goes.bind (n := 1) (k := 7 * E.length + 4) (a := true) (s₁ := sh (A ++ dO M m :: (B ++ [dO E e])) tk os) (p₁ := p) ?_ ?_) (by omega)
  · rw [resh]; exact Goes.isDict hda
  rw [if_pos rfl]
  refine Goes.le (Goes.bind (n := 1) (k := 7 * E.length + 3) (a := some (.builtin "dict.__iter__")) (s₁ := sh (A ++ dO M m :: (B ++ [dO E e])) tk os) (p₁ := p) ?_ ?_) (by omega)
  · rw [resh]; exact Goes.iterOf hda
  refine Goes.le (Goes.bind (n := 0) (k := 7 * E.length + 3) (Goes.pure _) ?_) (by omega)
  rw [dict_iter_is]
  dsimp only
  have hs : (a == sysModules) = false := by
    have : sysModules = 1 := rfl
    rw [this]
    have : a ≠ 1 := by rw [hda]; simp; omega
    simpa using this
  rw [hs, if_neg Bool.false_ne_true]
  refine Goes.le (Goes.bind (n := 1) (k := 7 * E.length + 2) (Goes.entries hd none) ?_) (by omega)
  rw [if_neg (by simpa using hM)]
  refine Goes.le (Goes.bind (n := 1) (k := 7 * E.length + 1) (a := E.toArray) (s₁ := sh (A ++ dO M m :: (B ++ [dO E e])) tk os) (p₁ := p) ?_ ?_) (by omega)
  · rw [resh]; exact Goes.entries hda none
  refine Goes.le (Goes.bind (n := 1) (k := 7 * E.length) (a := e) (s₁ := sh (A ++ dO M m :: (B ++ [dO E e])) tk os) (p₁ := p) ?_ ?_) (by omega)
  · rw [resh]; exact Goes.epoch hda none
  refine Goes.le (Goes.bind (n := 7 * E.length) (k := 0) (a := PUnit.unit) (s₁ := sh (A ++ dO (M ++ E) (m + E.length) :: (B ++ [dO E e])) tk os) (p₁ := p) ?_ (Goes.pure _)) (by omega)
  refine Goes.loop (fun _ => PUnit.unit) (fun j => sh (A ++ dO (M ++ E.take j) (m + j) :: (B ++ [dO E e])) tk os) (fun _ => p) 7 rfl (by simp) rfl rfl (by simp) rfl (by simp) ?_
  · intro i x hx
    obtain ⟨hlt, rfl⟩ := List.getElem?_eq_some_iff.mp hx
    rw [List.getElem_range]
    have hlt' : i < E.length := by simpa using hlt
    have hX : E.toArray[i]? = some E[i] := by rw [List.getElem?_toArray]; exact List.getElem?_eq_getElem hlt'
    have hX' : E[i]? = some E[i] := List.getElem?_eq_getElem hlt'
    refine Goes.le (Goes.bind (n := 1) (k := 5) (a := E.toArray) (s₁ := sh (A ++ dO (M ++ E.take i) (m + i) :: (B ++ [dO E e])) tk os) (p₁ := p) ?_ ?_) (by omega)
    · rw [resh]; exact Goes.entries (by rw [hda]; simp) none
    rw [hX]
    dsimp only
    have hi' := hi E[i] (List.getElem_mem hlt')
    have hf' := hf i E[i] hX'
    rw [take_snoc hX', ← List.append_assoc]
    generalize E[i] = X at hi' hf'
    obtain ⟨t, ht⟩ := hi'
    refine Goes.bind (n := 4) (k := 1) (a := ()) (s₁ := sh (A ++ dO (M ++ E.take i ++ [X]) (m + i + 1) :: (B ++ [dO E e])) tk os) (p₁ := p) ?_ ?_
    · refine Goes.holding _ ?_
      rw [if_neg Bool.false_ne_true]
      have g := Goes.put (w := w) (p := p) (A := A) (B := B ++ [dO E e]) (es := M ++ E.take i) (n := m + i) (tk := tk) (os := os) (k := X.hash) (t := t) (v := X.val) hd (Nat.ble_eq.mpr h11) (by rw [List.length_append, List.length_take]; omega) hf'
      obtain ⟨h, key, val⟩ := X
      dsimp only at ht g ⊢
      subst ht
      exact g
    · refine Goes.bind (n := 1) (k := 0) (a := e) (s₁ := sh (A ++ dO (M ++ E.take i ++ [X]) (m + i + 1) :: (B ++ [dO E e])) tk os) (p₁ := p) ?_ ?_
      · rw [resh]
        exact Goes.epoch (by rw [hda]; simp) none
      · rw [if_neg (by simp)]
        exact Goes.pure _
end
end
end Mine
end
section
open PySem PySem.W PyProof.Rows
set_option Elab.async false
set_option maxRecDepth 100000
set_option maxHeartbeats 0
namespace Mine
noncomputable section

def entS (tk : Nat) (j : Nat) (x : Int × Str) : DictEntry := ⟨x.1, .int x.1 (tk + 2 * j), .str x.2 (tk + 2 * j + 1)⟩
def entsS (tk : Nat) (l : List (Int × Str)) : List DictEntry := l.mapIdx (entS tk)
def valS (tk : Nat) (j : Nat) (x : Int × Str) : Value × Value := (.int x.1 (tk + 2 * j), .str x.2 (tk + 2 * j + 1))
theorem entsS_length (tk : Nat) (l : List (Int × Str)) : (entsS tk l).length = l.length := by simp [entsS]
theorem entsS_get {tk : Nat} {l : List (Int × Str)} {j : Nat} {x : Int × Str} (h : l[j]? = some x) : (entsS tk l)[j]? = some (entS tk j x) := by
  simp [entsS, h]
theorem entsS_fresh {tk : Nat} {l : List (Int × Str)} (hl : Fine l) {j : Nat} {x : Int × Str} (h : l[j]? = some x) : fresh? x.1 ((entsS tk l).take j) := by
  intro e he
  obtain ⟨i, hi, rfl⟩ := List.getElem_of_mem he
  have hij : i < j := by have := hi; rw [List.length_take] at this; omega
  rw [List.getElem_take]
  obtain ⟨hj, rfl⟩ := List.getElem?_eq_some_iff.mp h
  simp only [entsS, List.getElem_mapIdx, entS]
  intro e
  have := (List.pairwise_iff_getElem.mp hl.nodup) i j (by rw [List.length_map]; omega) (by rw [List.length_map]; exact hj) hij
  rw [List.getElem_map, List.getElem_map] at this
  exact this e

section
variable {w : World} {dp : Pos} {os : OsState} {objs : List Obj}
theorem goes_evalPairs : ∀ (l : List (Int × Str)) (tk : Nat), Goes w (3 * l.length) (evalPairs (l.map (pr dp))) (sh objs tk os) dp (l.mapIdx (valS tk)) (sh objs (tk + 2 * l.length) os) dp
  | [], tk => Goes.pure _
  | x :: l, tk => by
    rw [List.map_cons, evalPairs]
    refine Goes.le (Goes.bind (n := 1) (k := 3 * l.length + 2) (a := .int x.1 tk) (s₁ := sh objs (tk + 1) os) (p₁ := dp) (Goes.bind (n := 1) (k := 0) Goes.fresh (Goes.pure _)) ?_) (by rw [List.length_cons]; omega)
    refine Goes.le (Goes.bind (n := 2) (k := 3 * l.length) (a := .str x.2 (tk + 1)) (s₁ := sh objs (tk + 2) os) (p₁ := dp) ?_ ?_) (by omega)
    · refine Goes.holding _ ?_
      refine Goes.bind (n := 1) (k := 1) (Goes.bind (n := 1) (k := 0) Goes.fresh (Goes.pure _)) ?_
      exact Goes.bind (n := 1) (k := 0) (Goes.standAt dp) (Goes.pure _)
    · have ih := goes_evalPairs l (tk + 2)
      refine Goes.le (Goes.bind (n := 3 * l.length) (k := 0) (Goes.holding _ ih) ?_) (by omega)
      rw [List.length_cons, show tk + 2 * (l.length + 1) = tk + 2 + 2 * l.length by omega]
      have e : (x :: l).mapIdx (valS tk) = (Value.int x.1 tk, Value.str x.2 (tk + 1)) :: l.mapIdx (valS (tk + 2)) := by
        rw [List.mapIdx_cons]
        congr 1
        apply List.mapIdx_eq_mapIdx_iff.mpr
        intro i hi
        simp only [valS]
        rw [show tk + 2 * (i + 1) = tk + 2 + 2 * i by omega]
      rw [e]
      exact Goes.pure _

theorem goes_subDictS {l : List (Int × Str)} {tk : Nat} (hl : Fine l) (h15 : l.length ≤ 15) (ho : 11 ≤ objs.length) :
    Goes w (13 * l.length + 2) (subDict (l.map (pr dp))) (sh objs tk os) dp objs.length (sh (objs ++ [dO (entsS tk l) l.length]) (tk + 3 * l.length) os) dp := by
  unfold subDict
  refine Goes.le (Goes.bind (n := 1) (k := 13 * l.length + 1) (a := objs.length) (s₁ := sh (objs ++ [dO [] 0]) tk os) (p₁ := dp) ?_ ?_) (by omega)
  · have := Goes.alloc (w := w) (s := sh objs tk os) (p := dp) { cls := .type "dict", data := .dict #[] }
    rw [show (sh objs tk os).heap = hp objs from rfl, hp_push] at this
    have e : (hp objs).objs.size = objs.length := List.size_toArray
    rw [e] at this
    exact this
  · refine Goes.bind (n := 13 * l.length + 1) (k := 0) (a := ()) (s₁ := sh (objs ++ [dO (entsS tk l) l.length]) (tk + 3 * l.length) os) (p₁ := dp) ?_ (Goes.pure _)
    refine Goes.holding _ ?_
    rw [List.length_map, if_pos h15]
    refine Goes.le (Goes.bind (n := 3 * l.length) (k := 10 * l.length) (goes_evalPairs l tk) ?_) (by omega)
    refine Goes.holding _ ?_
    refine Goes.le (Goes.bind (n := 10 * l.length) (k := 0) (a := PUnit.unit) (s₁ := sh (objs ++ [dO (entsS tk l) l.length]) (tk + 3 * l.length) os) (p₁ := dp) ?_ (Goes.pure _)) (by omega)
    refine Goes.loop (fun _ => PUnit.unit) (fun j => sh (objs ++ [dO ((entsS tk l).take j) j]) (tk + 2 * l.length + j) os) (fun _ => dp) 10 rfl rfl rfl rfl ?_ rfl (by simp) ?_
    · rw [List.length_mapIdx, show (entsS tk l).take l.length = entsS tk l by rw [← entsS_length tk l, List.take_length], show tk + 2 * l.length + l.length = tk + 3 * l.length by omega]
    · intro j x hx
      rw [List.getElem?_mapIdx] at hx
      obtain ⟨y, hy, rfl⟩ := Option.map_eq_some_iff.mp hx
      have hj : j < l.length := (List.getElem?_eq_some_iff.mp hy).1
      have hs := hl.small y (List.mem_of_getElem? hy)
      have g := Goes.set (w := w) (p := dp) (A := objs) (B := []) (es := (entsS tk l).take j) (n := j) (d := objs.length) (tk := tk + 2 * l.length + j) (os := os) (k := y.1) (t := tk + 2 * j) (v := .str y.2 (tk + 2 * j + 1)) rfl (Nat.ble_eq.mpr ho) (by rw [List.length_take, entsS_length]; omega) (entsS_fresh hl hy) hs.1 hs.2
      rw [take_snoc (entsS_get hy)]
      exact Goes.bind (n := 10) (k := 0) g (Goes.pure _)

end

theorem fresh_of {k : Int} {es : List DictEntry} (h : k ∉ es.map (·.hash)) : fresh? k es := fun e he q => h (q ▸ List.mem_map_of_mem he)
theorem hash_ents (tk : Nat) (l : List (Int × Str)) : (entsOf tk l).map (·.hash) = l.map (·.1) := by
  apply List.ext_getElem?
  intro i
  simp only [entsOf, List.getElem?_map, List.getElem?_mapIdx]
  cases l[i]? <;> rfl
theorem hash_entsS (tk : Nat) (l : List (Int × Str)) : (entsS tk l).map (·.hash) = l.map (·.1) := by
  apply List.ext_getElem?
  intro i
  simp only [entsS, List.getElem?_map, List.getElem?_mapIdx]
  cases l[i]? <;> rfl
theorem nodup_take {l : List Int} (h : l.Nodup) {j : Nat} {k : Int} (hk : l[j]? = some k) : k ∉ l.take j := by
  intro hm
  obtain ⟨i, hi, e⟩ := List.getElem_of_mem hm
  obtain ⟨hj, rfl⟩ := List.getElem?_eq_some_iff.mp hk
  have hij : i < j := by rw [List.length_take] at hi; omega
  rw [List.getElem_take] at e
  exact (List.pairwise_iff_getElem.mp h) i j (by omega) hj hij e

def chunk (KV : List (Int × Str)) (c : Nat) : List (Int × Str) := (KV.drop (17 * c)).take 17
def Mst (KV : List (Int × Str)) (c : Nat) : List DictEntry := entsOf 276 (KV.take (17 * c))
def subs (KV : List (Int × Str)) (c : Nat) : List Obj := (List.range (c - 1)).map fun j => dO (entsOf (276 + 51 * (j + 1)) (chunk KV (j + 1))) 17
def Cst (L : List Obj) (KV : List (Int × Str)) (os : OsState) (c : Nat) : Shared := if c = 0 then sh L 276 os else sh (L ++ dO (Mst KV c) (17 * c) :: subs KV c) (276 + 51 * c) os

theorem Fine.sub {l l' : List (Int × Str)} (h : Fine l) (s : l'.Sublist l) : Fine l' := ⟨h.nodup.sublist (s.map _), fun x hx => h.small x (s.subset hx)⟩
theorem take_chunk (KV : List (Int × Str)) (c : Nat) : KV.take (17 * (c + 1)) = KV.take (17 * c) ++ chunk KV c := by
  unfold chunk
  rw [Nat.mul_succ, List.take_add]
theorem ents_append (tk : Nat) (a b : List (Int × Str)) : entsOf tk (a ++ b) = entsOf tk a ++ entsOf (tk + 3 * a.length) b := by
  unfold entsOf
  rw [List.mapIdx_append]
  congr 1
  apply List.mapIdx_eq_mapIdx_iff.mpr
  intro i hi
  simp only [entAt]
  rw [show tk + 3 * (i + a.length) = tk + 3 * a.length + 3 * i by omega]
theorem Mst_succ {KV : List (Int × Str)} {c : Nat} (h : 17 * (c + 1) ≤ KV.length) : Mst KV (c + 1) = Mst KV c ++ entsOf (276 + 51 * c) (chunk KV c) := by
  unfold Mst
  rw [take_chunk, ents_append, List.length_take, Nat.min_eq_left (by omega), show 276 + 3 * (17 * c) = 276 + 51 * c by omega]
theorem subs_succ (KV : List (Int × Str)) {c : Nat} (h : c ≠ 0) : subs KV (c + 1) = subs KV c ++ [dO (entsOf (276 + 51 * c) (chunk KV c)) 17] := by
  unfold subs
  obtain ⟨c, rfl⟩ := Nat.exists_eq_succ_of_ne_zero h
  simp only [Nat.succ_eq_add_one, Nat.add_sub_cancel, List.range_succ, List.map_append, List.map_cons, List.map_nil]
theorem ents_int {tk : Nat} {l : List (Int × Str)} : ∀ X ∈ entsOf tk l, IntEnt X := by
  intro X hX
  obtain ⟨i, hi, rfl⟩ := List.getElem_of_mem hX
  simp only [entsOf, List.getElem_mapIdx, entAt]
  exact ⟨_, rfl⟩
theorem entsS_int {tk : Nat} {l : List (Int × Str)} : ∀ X ∈ entsS tk l, IntEnt X := by
  intro X hX
  obtain ⟨i, hi, rfl⟩ := List.getElem_of_mem hX
  simp only [entsS, List.getElem_mapIdx, entS]
  exact ⟨_, rfl⟩
theorem fresh_join {M E : List DictEntry} {ks : List Int} (hn : ks.Nodup) (h : (M ++ E).map (·.hash) = ks) {i : Nat} {X : DictEntry} (hX : E[i]? = some X) : fresh? X.hash (M ++ E.take i) := by
  apply fresh_of
  have hk : ks[M.length + i]? = some X.hash := by
    rw [← h, List.getElem?_map, List.getElem?_append_right (by omega), Nat.add_sub_cancel_left, hX]; rfl
  have := nodup_take hn hk
  rwa [← h, ← List.map_take, List.take_length_add_append] at this

section
variable {w : World} {dp : Pos} {os : OsState} {L : List Obj} {KV : List (Int × Str)}
theorem chunk_length {c : Nat} (h : 17 * (c + 1) ≤ KV.length) : (chunk KV c).length = 17 := by
  unfold chunk
  rw [List.length_take, List.length_drop]; omega
theorem chunk_fine (hf : Fine KV) (c : Nat) : Fine (chunk KV c) := hf.sub ((List.take_sublist _ _).trans (List.drop_sublist _ _))

theorem flush0 (hf : Fine KV) (hL : L.length = 47) (h : 17 ≤ KV.length) : Goes w 400 (do let d ← subDict ((chunk KV 0).map (pr dp)); pure (some d)) (Cst L KV os 0) dp (some 47) (Cst L KV os 1) dp := by
  have hl := chunk_length (KV := KV) (c := 0) (by omega)
  have g := goes_subDict (w := w) (dp := dp) (tk := 276) (os := os) (objs := L) (chunk_fine hf 0) (by omega) (by omega) (by omega)
  rw [hl, hL] at g
  refine Goes.le (Goes.bind (n := 13 * 17 + 2) (k := 0) g ?_) (by omega)
  have e : Cst L KV os 1 = sh (L ++ [dO (entsOf 276 (chunk KV 0)) 17]) (276 + 3 * 17) os := by
    unfold Cst
    rw [if_neg (by omega), Mst_succ (by omega)]
    rfl
  rw [e]
  exact Goes.pure _
theorem flushC (hf : Fine KV) (hL : L.length = 47) (h100 : KV.length ≤ 10000) {c : Nat} (hc : c ≠ 0) (h : 17 * (c + 1) ≤ KV.length) (z : Value → Value → Sem Unit) : Goes w 400 (do
      let sub ← holding [Value.ref 47] (subDict ((chunk KV c).map (pr dp)))
      (holding [Value.ref 47, Value.ref sub] (mergeMapping 47 (Value.ref sub) false)).onRaise (z (.ref sub))
      pure (some 47)) (Cst L KV os c) dp (some 47) (Cst L KV os (c + 1)) dp := by
  have hl := chunk_length (KV := KV) (c := c) h
  have e0 : Cst L KV os c = sh (L ++ dO (Mst KV c) (17 * c) :: subs KV c) (276 + 51 * c) os := by unfold Cst; rw [if_neg hc]
  have e1 : Cst L KV os (c + 1) = sh (L ++ dO (Mst KV c ++ entsOf (276 + 51 * c) (chunk KV c)) (17 * c + 17) :: (subs KV c ++ [dO (entsOf (276 + 51 * c) (chunk KV c)) 17])) (276 + 51 * c + 51) os := by
    unfold Cst; rw [if_neg (by omega), Mst_succ h, subs_succ KV hc, show 17 * (c + 1) = 17 * c + 17 by omega, show 276 + 51 * (c + 1) = 276 + 51 * c + 51 by omega]
  rw [e0, e1]
  have hM : (Mst KV c).length = 17 * c := by unfold Mst; rw [ents_length, List.length_take]; omega
  have g := goes_subDict (w := w) (dp := dp) (tk := 276 + 51 * c) (os := os) (objs := L ++ dO (Mst KV c) (17 * c) :: subs KV c) (chunk_fine hf c) (by omega) (by omega) (by rw [List.length_append]; omega)
  rw [hl] at g
  refine Goes.le (Goes.bind (n := 13 * 17 + 2) (k := 7 * 17 + 5) (Goes.holding _ g) ?_) (by omega)
  refine Goes.bind (n := 7 * 17 + 5) (k := 0) (a := ()) (s₁ := sh (L ++ dO (Mst KV c ++ entsOf (276 + 51 * c) (chunk KV c)) (17 * c + 17) :: (subs KV c ++ [dO (entsOf (276 + 51 * c) (chunk KV c)) 17])) (276 + 51 * c + 51) os) (p₁ := dp) ?_ (Goes.pure _)
  refine Goes.onRaise _ (Goes.holding _ ?_)
  have m := goes_merge (w := w) (p := dp) (A := L) (B := subs KV c) (M := Mst KV c) (E := entsOf (276 + 51 * c) (chunk KV c)) (m := 17 * c) (e := 17) (d := 47) (a := (L ++ dO (Mst KV c) (17 * c) :: subs KV c).length) (tk := 276 + 51 * c + 3 * 17) (os := os) hL.symm (by omega)
    (by rw [hM, ents_length, hl]; omega) (by intro q; rw [q] at hM; simp at hM; omega) rfl ents_int
    (fun i X hX => fresh_join (hf.sub (List.take_sublist (17 * (c + 1)) KV)).nodup (by rw [← Mst_succ h]; exact hash_ents _ _) hX)
  rw [ents_length, hl] at m
  rw [show (L ++ dO (Mst KV c) (17 * c) :: subs KV c) ++ [dO (entsOf (276 + 51 * c) (chunk KV c)) 17] = L ++ dO (Mst KV c) (17 * c) :: (subs KV c ++ [dO (entsOf (276 + 51 * c) (chunk KV c)) 17]) by simp]
  exact m
theorem flushZ (hf : Fine KV) (hL : L.length = 47) (hl : KV.length = 650) (z : Value → Value → Sem Unit) : Goes w 400 (do
      let sub ← holding [Value.ref 47] (subDict ((KV.drop 646).map (pr dp)))
      (holding [Value.ref 47, Value.ref sub] (mergeMapping 47 (Value.ref sub) false)).onRaise (z (.ref sub))
      pure (some 47)) (Cst L KV os 38) dp (some 47) (sh (L ++ dO (Mst KV 38 ++ entsS 2214 (KV.drop 646)) 650 :: (subs KV 38 ++ [dO (entsS 2214 (KV.drop 646)) 4])) 2226 os) dp := by
  have hd : (KV.drop 646).length = 4 := by rw [List.length_drop]; omega
  have e0 : Cst L KV os 38 = sh (L ++ dO (Mst KV 38) 646 :: subs KV 38) 2214 os := by unfold Cst; rw [if_neg (by omega)]
  rw [e0]
  have hM : (Mst KV 38).length = 646 := by unfold Mst; rw [ents_length, List.length_take]; omega
  have g := goes_subDictS (w := w) (dp := dp) (tk := 2214) (os := os) (objs := L ++ dO (Mst KV 38) 646 :: subs KV 38) (hf.sub (List.drop_sublist 646 KV)) (by omega) (by rw [List.length_append]; omega)
  rw [hd] at g
  refine Goes.le (Goes.bind (n := 13 * 4 + 2) (k := 7 * 4 + 5) (Goes.holding _ g) ?_) (by omega)
  refine Goes.bind (n := 7 * 4 + 5) (k := 0) (a := ()) (s₁ := sh (L ++ dO (Mst KV 38 ++ entsS 2214 (KV.drop 646)) 650 :: (subs KV 38 ++ [dO (entsS 2214 (KV.drop 646)) 4])) 2226 os) (p₁ := dp) ?_ (Goes.pure _)
  refine Goes.onRaise _ (Goes.holding _ ?_)
  have m := goes_merge (w := w) (p := dp) (A := L) (B := subs KV 38) (M := Mst KV 38) (E := entsS 2214 (KV.drop 646)) (m := 646) (e := 4) (d := 47) (a := (L ++ dO (Mst KV 38) 646 :: subs KV 38).length) (tk := 2214 + 3 * 4) (os := os) hL.symm (by omega)
    (by rw [hM, entsS_length, hd]; omega) (by intro q; rw [q] at hM; simp at hM) rfl entsS_int
    (fun i X hX => fresh_join hf.nodup (by rw [List.map_append]; unfold Mst; rw [hash_ents, hash_entsS, ← List.map_append, List.take_append_drop]) hX)
  rw [entsS_length, hd] at m
  rw [show (L ++ dO (Mst KV 38) 646 :: subs KV 38) ++ [dO (entsS 2214 (KV.drop 646)) 4] = L ++ dO (Mst KV 38) 646 :: (subs KV 38 ++ [dO (entsS 2214 (KV.drop 646)) 4]) by simp]
  exact m

theorem goes_display (hf : Fine KV) (hL : L.length = 47) (hl : KV.length = 650) : Goes w 261000 (dictDisplay (KV.map fun x => (some (pr dp x).1, (pr dp x).2))) (sh L 276 os) dp (.ref 47)
    (sh (L ++ dO (Mst KV 38 ++ entsS 2214 (KV.drop 646)) 650 :: (subs KV 38 ++ [dO (entsS 2214 (KV.drop 646)) 4])) 2226 os) dp := by
  unfold dictDisplay
  dsimp only
  refine Goes.le (Goes.bind (n := 400 * 650) (k := 400) (a := (some 47, (KV.drop 646).map (pr dp))) (s₁ := Cst L KV os 38) (p₁ := dp) ?_ ?_) (by omega)
  · refine Goes.loop (fun i => (if i / 17 = 0 then none else some 47, ((KV.drop (17 * (i / 17))).take (i % 17)).map (pr dp))) (fun i => Cst L KV os (i / 17)) (fun _ => dp) 400 ?_ ?_ rfl ?_ ?_ rfl ?_ ?_
    · simp
    · simp [Cst]
    · rw [List.length_map, hl]
      show ((some 47, ((KV.drop 646).take 4).map (pr dp)) : Option Addr × _) = _
      rw [List.take_of_length_le (by rw [List.length_drop]; omega)]
    · rw [List.length_map, hl]
    · rw [List.length_map, hl]; exact Nat.le_refl _
    · intro i x hx
      rw [List.getElem?_map] at hx
      obtain ⟨y, hy, rfl⟩ := Option.map_eq_some_iff.mp hx
      have hi : i < 650 := by have := (List.getElem?_eq_some_iff.mp hy).1; omega
      dsimp only
      have hrun : ((KV.drop (17 * (i / 17))).take (i % 17)).map (pr dp) ++ [((pr dp y).1, (pr dp y).2)] = ((KV.drop (17 * (i / 17))).take (i % 17 + 1)).map (pr dp) := by
        rw [take_snoc (x := y) (by rw [List.getElem?_drop, show 17 * (i / 17) + i % 17 = i by omega]; exact hy), List.map_append]
        rfl
      rw [hrun]
      have hlen : (((KV.drop (17 * (i / 17))).take (i % 17 + 1)).map (pr dp)).length = i % 17 + 1 := by
        rw [List.length_map, List.length_take, List.length_drop, hl]; omega
      by_cases h16 : i % 17 = 16
      · have h17 : (i + 1) / 17 = i / 17 + 1 := by omega
        have h0 : (i + 1) % 17 = 0 := by omega
        rw [if_pos (by rw [hlen, h16]; rfl), if_neg (by rw [List.isEmpty_iff]; intro q; rw [q] at hlen; simp at hlen), h17, h0, if_neg (by omega : ¬ i / 17 + 1 = 0), List.take_zero, List.map_nil]
        refine Goes.bind (n := 400) (k := 0) (a := some 47) (s₁ := Cst L KV os (i / 17 + 1)) (p₁ := dp) ?_ (Goes.pure _)
        rw [h16]
        by_cases hz : i / 17 = 0
        · rw [hz]
          exact flush0 hf hL (by omega)
        · rw [if_neg hz]
          exact flushC hf hL (by omega) hz (by omega) (fun sub x => do
            let _ ← holding [Value.ref 47, x] (runValue (Code.builtin "proto.let_go" { })); pure ())
      · have h17 : (i + 1) / 17 = i / 17 := by omega
        have h0 : (i + 1) % 17 = i % 17 + 1 := by omega
        rw [if_neg (by rw [hlen]; simp; omega), h17, h0]
        exact (Goes.pure _).le (by omega)
  · have hne : ((KV.drop 646).map (pr dp)).isEmpty = false := by
      cases hq : KV.drop 646 with
      | nil => have := congrArg List.length hq; rw [List.length_drop, hl] at this; simp at this
      | cons => rfl
    dsimp only
    rw [hne, if_neg Bool.false_ne_true]
    refine Goes.le (Goes.bind (n := 400) (k := 0) (flushZ hf hL hl (fun sub x => do
            let _ ← holding [Value.ref 47, x] (runValue (Code.builtin "proto.let_go" { })); pure ())) ?_) (by omega)
    exact Goes.pure _
end
end
end Mine
end
section
open PySem PySem.W PyProof.Rows
set_option Elab.async false
set_option maxRecDepth 100000
set_option maxHeartbeats 0
namespace Mine
noncomputable section

def T6 : List Expr := match stAt 6 with | [.Assign ts _ _] => ts | _ => []
def P6 : Pos := match stAt 6 with | [.Assign _ _ p] => p | _ => pz
def D6K : List (Option Expr) := match stAt 6 with | [.Assign _ (.Dict ks _ _) _] => ks | _ => []
def D6V : List Expr := match stAt 6 with | [.Assign _ (.Dict _ vs _) _] => vs | _ => []
def D6P : Pos := match stAt 6 with | [.Assign _ (.Dict _ _ p) _] => p | _ => pz
def keyInt : Option Expr → Int
  | some (.Constant (.int k) _ _) => k
  | _ => 0
def valStr : Expr → Str
  | .Constant (.str s) _ _ => s
  | _ => Str.empty
def KV : List (Int × Str) := (D6K.map keyInt).zip (D6V.map valStr)

theorem st6_eq : stAt 6 = [.Assign T6 (.Dict D6K D6V D6P) P6] := by kernel_rfl
theorem items6 : (evalEachOpt D6K ENV).zip ((evalEach D6V ENV).map fun v => do let x ← v; standAt D6P; pure x) = KV.map fun x => (some (pr D6P x).1, (pr D6P x).2) := by kernel_rfl
theorem KV_len : KV.length = 650 := by decide +kernel
def asc (l : List Int) : Bool := (l.zip l.tail).all fun p => decide (p.1 < p.2)
theorem asc_pw : ∀ l : List Int, asc l = true → l.Pairwise (· < ·)
  | [], _ => .nil
  | [a], _ => by simp
  | a :: b :: l, h => by
    have h : (decide (a < b) && asc (b :: l)) = true := h
    rw [Bool.and_eq_true, decide_eq_true_eq] at h
    have ih := asc_pw (b :: l) h.2
    refine List.pairwise_cons.mpr ⟨fun x hx => ?_, ih⟩
    rcases List.mem_cons.mp hx with rfl | hx
    · exact h.1
    · exact Int.lt_trans h.1 ((List.pairwise_cons.mp ih).1 x hx)
theorem KV_asc : asc (KV.map (·.1)) = true := by decide +kernel
theorem KV_small : (KV.all fun x => decide (0 ≤ x.1) && decide (x.1 < 2305843009213693951)) = true := by decide +kernel
theorem KV_fine : Fine KV := ⟨(asc_pw _ KV_asc).imp fun h => Int.ne_of_lt h, fun x hx => by simpa using List.all_eq_true.mp KV_small x hx⟩

theorem Goes.ofGo {α : Type} {w : World} {n : Nat} {m : Sem α} {s s' : Shared} {p p' : Pos} {a : α} (h : ∀ K H gd lv, segGo treeTable pw w 11 ANN 1 n s ⟨m.wrap K H gd lv, CE, p, BF⟩ = some (s', ⟨K a, CE, p', BF⟩)) : Goes w n m s p a s' p' :=
  fun K H gd lv _ _ e => seg_go (h K H gd lv) e

def L3 (P : Params) (k : Nat) : List Obj := low P (tx "cpy313.stringprep" 207) k ++ oA (f12.take 9) ++ oB P ++ oC
def oD : List Obj := dO (Mst KV 38 ++ entsS 2214 (KV.drop 646)) 650 :: (subs KV 38 ++ [dO (entsS 2214 (KV.drop 646)) 4])
def S4 (P : Params) (os : OsState) : Shared := sh (L3 P 5 ++ oD) 2227 os
theorem L3_len (P : Params) (k : Nat) : (L3 P k).length = 47 := rfl

theorem swaps6 : swapsWithSole T6 (.Dict D6K D6V D6P) P6.line ENV = (pure false : Sem Bool) := by kernel_rfl
theorem tail6 (w : World) (os : OsState) (K : Flow → Sem Fin) (H : Value → Sem Fin) (gd : Bool → Bool) (lv : List Value → List Value) :
    segGo treeTable pw w 11 ANN 1 7 (sh (L3 w.params 4 ++ oD) 2226 os) ⟨(do assignStores ENV (.ref 47) (← swappedStores T6 (.Dict D6K D6V D6P) ENV) ((assignEach T6 ENV).map (·.2)) : Sem Flow).wrap K H gd lv, CE, D6P, BF⟩ =
      some (S4 w.params os, ⟨K .next, CE, ⟨17, 0, 17, 13⟩, BF⟩) := by
  kernel_rfl

theorem assign_dict {w : World} {T : List Expr} {ks : List (Option Expr)} {vs : List Expr} {dp ap p₀ p₁ : Pos} {s s₁ s₂ : Shared} {n k : Nat} {v : Value} {items : List (Option (Sem Value) × Sem Value)}
    (hsw : swapsWithSole T (.Dict ks vs dp) ap.line ENV = (pure false : Sem Bool))
    (hit : (evalEachOpt ks ENV).zip ((evalEach vs ENV).map fun v => do let x ← v; standAt dp; pure x) = items)
    (hd : Goes w n (dictDisplay items) s dp v s₁ dp)
    (ht : Goes w k (do assignStores ENV v (← swappedStores T (.Dict ks vs dp) ENV) ((assignEach T ENV).map (·.2)) : Sem Flow) s₁ dp .next s₂ p₁) :
    Goes w (1 + (1 + n + k)) (execs [.Assign T (.Dict ks vs dp) ap] ENV) s p₀ .next s₂ p₁ := by
  show Goes w (1 + (1 + n + k)) (do match ← exec (.Assign T (.Dict ks vs dp) ap) ENV with | .next => execs [] ENV | f => pure f) _ _ _ _ _
  refine Goes.bind (n := 1 + (1 + n + k)) (k := 0) (a := .next) (s₁ := s₂) (p₁ := p₁) ?_ (Goes.pure _)
  show Goes w (1 + (1 + n + k)) (do
    standAt ap
    if ← swapsWithSole T (.Dict ks vs dp) ap.line ENV then do
      evalThenUse (.Dict ks vs dp) ENV fun v => assignAll v ((assignEach T ENV).map (·.2))
      pure .next
    else do
      let v ← eval (.Dict ks vs dp) ENV
      assignStores ENV v (← swappedStores T (.Dict ks vs dp) ENV) ((assignEach T ENV).map (·.2))) _ _ _ _ _
  rw [hsw]
  refine Goes.bind (Goes.standAt ap) ?_
  refine Goes.le (Goes.bind (n := 0) (k := 1 + n + k) (Goes.pure _) ?_) (by omega)
  rw [if_neg Bool.false_ne_true]
  refine Goes.bind (n := 1 + n) (k := k) (a := v) (s₁ := s₁) (p₁ := dp) ?_ ht
  show Goes w (1 + n) (do standAt dp; dictDisplay ((evalEachOpt ks ENV).zip ((evalEach vs ENV).map fun v => do let x ← v; standAt dp; pure x))) _ _ _ _ _
  rw [hit]
  exact Goes.bind (Goes.standAt dp) hd

theorem g6_goes (w : World) (os : OsState) : Goes w 261100 (execs (stAt 6) ENV) (sh (L3 w.params 4) 276 os) ⟨15, 0, 16, 30⟩ .next (S4 w.params os) ⟨17, 0, 17, 13⟩ := by
  rw [st6_eq]
  have hd := goes_display (w := w) (dp := D6P) (os := os) KV_fine (L3_len w.params 4) KV_len
  exact (assign_dict (p₀ := ⟨15, 0, 16, 30⟩) swaps6 items6 hd (Goes.ofGo (tail6 w os))).le (by decide)

def S5 (P : Params) (os : OsState) : Shared := sh (low P (tx "law_mq0272_01" 2235) 17 ++ oA f12 ++ oB P ++ oC ++ oD ++ oE) 2317 os
theorem g5_ok (w : World) (os : OsState) : segRun treeTable pw w 11 ANN 1 30 (S2 w.params os) (piecesOf (stAt 5) ENV CE ⟨14, 0, 14, 6⟩ BF) = some (.next, sh (L3 w.params 4) 276 os, CE, ⟨15, 0, 16, 30⟩) := by
  show segRun treeTable pw _ 11 ANN 1 30 (S2 w.params os) ⟨(execs (stAt 5) ENV).wrap doneF deadEnd id id, CE, ⟨14, 0, 14, 6⟩, BF⟩ = _
  rw [PySem.W.Fast.te14374325043358763698, PySem.W.Fast.te14364793385576792824, PySem.W.Fast.te12563942051412417395]
  kernel_rfl
end
end Mine
end
section
open PySem PySem.W PyProof.Rows
set_option Elab.async false
set_option maxRecDepth 100000
set_option maxHeartbeats 0
namespace Mine
noncomputable section
theorem g7_ok (w : World) (os : OsState) : segRun treeTable pw w 11 ANN 1 370 (S4 w.params os) (piecesOf (pw.main.body.drop 7) ENV CE ⟨17, 0, 17, 13⟩ BF) = some (.next, S5 w.params os, CE, ⟨80, 0, 86, 89⟩) := by
  show segRun treeTable pw _ 11 ANN 1 370 (S4 w.params os) ⟨(execs (pw.main.body.drop 7) ENV).wrap doneF deadEnd id id, CE, ⟨17, 0, 17, 13⟩, BF⟩ = _
  rw [PySem.W.Fast.te14374325043358763698, PySem.W.Fast.te14364793385576792824, PySem.W.Fast.te12563942051412417395]
  kernel_rfl
end
end Mine
end
section
open PySem PySem.W PyProof.Rows
set_option Elab.async false
set_option maxRecDepth 100000
set_option maxHeartbeats 0
namespace Mine
noncomputable section

def H1 (P : Params) : Heap := hp (low P (tx "law_mq0272_01" 2235) 17 ++ oA f12 ++ oB P ++ oC ++ oD ++ oE)
theorem body_eq : behindTheImports pw = pw.main.body.take 4 ++ (stAt 4 ++ (stAt 5 ++ (stAt 6 ++ (pw.main.body.drop 7 ++ [])))) := by kernel_rfl
theorem fin_ok (w : World) (os : OsState) : topRun treeTable pw w 11 ANN 2 (S5 w.params os) ⟨doneF .next, CE, ⟨80, 0, 86, 89⟩, BF⟩ = some (S5 w.params os) := by kernel_rfl
theorem g4_ok (w : World) (os : OsState) : segRun treeTable pw w 11 ANN 1 999 (S1 w.params os) (piecesOf (stAt 4) ENV CE ⟨13, 0, 13, 8⟩ BF) = some (.next, S2 w.params os, CE, ⟨14, 0, 14, 6⟩) := by
  have := g4_follow w os (w.params.followText "special-get-raises")
  rwa [World.withFollow_self] at this
theorem g6_ok (w : World) (os : OsState) : segRun treeTable pw w 11 ANN 1 (261100 + 1) (sh (L3 w.params 4) 276 os) (piecesOf (stAt 6) ENV CE ⟨15, 0, 16, 30⟩ BF) = some (.next, S4 w.params os, CE, ⟨17, 0, 17, 13⟩) :=
  g6_goes w os doneF deadEnd id id 1 _ rfl
theorem run_ok (w : World) (os : OsState) : topRun treeTable pw w 11 ANN (12 + (1 + (81 + (999 + (30 + (261100 + 1 + (370 + 2))))))) ⟨boot_heap w.params, #[], boot_drawn, boot_toks, os⟩ (topStub pw) = some ⟨H1 w.params, #[], {}, 2317, os⟩ := by
  refine go_top (pre_ok w os) ?_
  refine piece_block (block_ok w os) ?_
  rw [body_eq]
  refine piece_app (g03_ok w os) ?_
  refine piece_app (g4_ok w os) ?_
  refine piece_app (g5_ok w os) ?_
  refine piece_app (g6_ok w os) ?_
  refine piece_app (g7_ok w os) ?_
  exact piece_nil (fin_ok w os)

def Q : Program := view pw [1, 2, 5, 7, 9, 10, 11, 12, 13, 14, 15, 16, 17, 18, 19]
def LS : List Str := ["b1_set", "b3_exceptions"]
def SetO (P : Params) : Obj := ⟨.type "set", none, .set setEs.toArray 29 (setTb (!P.followText "set-order")), #[]⟩
def TabO : Obj := dO (Mst KV 38 ++ entsS 2214 (KV.drop 646)) 650
def MainO (P : Params) : Obj := mainObj P (tx "law_mq0272_01" 2235) 17
def Yf (s : Shared) : Option Obj × Option Obj × Option Obj := (s.heap.get? 3, s.heap.get? 36, s.heap.get? 47)
def Ya (w : World) : Option Obj × Option Obj × Option Obj := (some (MainO w.params), some (SetO w.params), some TabO)

theorem size_ok (w : World) : ((boot_heap w.params).isNs mainGlobals && (#[] : Array GenState).size == 0, (boot_heap w.params).objs.size, (boot_heap w.params).nsMap mainGlobals "__annotations__") = (true, 11, ANN) := by kernel_rfl
theorem open_ok (w : World) : (fencedOpening treeTable pw w 300000).map (fun s => (s.heap, s.gens, s.drawn, s.toks)) = some (boot_heap w.params, #[], boot_drawn, boot_toks) :=
  boot_open (by kernel_rfl) (by decide) (fun s => by kernel_rfl) w
theorem look1 (w : World) (os : OsState) : (staticsOk (importedModules pw.main.body) (boot_heap w.params) (H1 w.params) && namesBound pw (H1 w.params) && gensDone ⟨H1 w.params, #[], {}, 2317, os⟩ && laidKept (boot_heap w.params) (H1 w.params)) = true := by kernel_rfl
theorem look3 (w : World) (os : OsState) : Yf ⟨H1 w.params, #[], {}, 2317, os⟩ = Ya w := by kernel_rfl
end
end Mine
end
section
open PySem PySem.W PyProof.Rows
set_option Elab.async false
set_option maxRecDepth 100000
set_option maxHeartbeats 0
namespace Mine
noncomputable section
def XT (_ : Shared) : Bool := true
theorem look2 (w : World) (os : OsState) : openSeen Q LS (importedModules pw.main.body) XT true ⟨H1 w.params, #[], {}, 2317, os⟩ = openGood Q LS := by
  rw [PySem.W.Fast.te4187177175401517315]
  kernel_rfl
end
end Mine
end
section
open PySem PySem.W PyProof.Rows
set_option Elab.async false
set_option maxRecDepth 100000
set_option maxHeartbeats 0
namespace Mine
noncomputable section
def YP (w : World) (h : Heap) : Prop := h.get? 3 = some (MainO w.params) ∧ h.get? 36 = some (SetO w.params) ∧ h.get? 47 = some TabO
def XQ (_ : Str → Option Value) (_ : Heap) : Prop := True
theorem left_ok : LeftO pw Q LS XT Yf Ya 300000 :=
  LeftO.of_pieces (H₀ := boot_heap) (H₁ := H1) (m₀ := 11) (ann := ANN) open_ok size_ok run_ok (by decide +kernel)
    (fun w => funext fun os => by rw [look1, look2, look3])
def dLaw : DefRec := ⟨fnName 19, fnArgs 19, fnBody 19, fnScope 19, ⟨80, 0, 86, 89⟩⟩
abbrev RL : OpenLaw := PySem.Challenge.rw_mq0272_01
theorem head (call : WalkO Q LS XQ YP RL.row.toRowW dLaw [] fun f vs => PySem.call f vs) : PySem.Challenge.rw_mq0272_01.Holds := by
  w_on
  o_law
  refine PySem.W.holds_open (q := Q) (loose := LS) (Xt := XT) (XP := XQ) (Yf := Yf) (Ya := Ya) (YP := YP) (d := dLaw) (kwd := []) (N := 300000) left_ok ?_ ?_ ?_ ?_ ?_ ?_ ?_ ?_ ?_ (by assumption) ?_ ?_ ?_ call
  · intro w s e
    have e' : (s.heap.get? 3, s.heap.get? 36, s.heap.get? 47) = (some (MainO w.params), some (SetO w.params), some TabO) := e
    simp only [Prod.mk.injEq] at e'
    exact e'
  · intro w h h' y k
    exact ⟨k _ _ y.1, k _ _ y.2.1, k _ _ y.2.2⟩
  · intro _ _; trivial
  · intro _ _ _ _ _; trivial
  · kernel_rfl
  · kernel_rfl
  · kernel_rfl
  · intro s _
    exact recFacts_of (R := []) (s := s) rfl
  · kernel_rfl
  · decide +kernel
  · exact ⟨rfl, rfl, rfl, rfl, rfl, by decide +kernel⟩
  · w_witness2
end
end Mine
end
section
open PySem PySem.W PyProof.Rows PySem.Calls
set_option Elab.async false
set_option maxRecDepth 100000
set_option maxHeartbeats 4000000
namespace Mine

def recAt (i : Nat) : DefRec := ⟨fnName i, fnArgs i, fnBody i, fnScope i, match stAt i with | [.FunctionDef _ _ _ _ _ _ _ _ _ p] => p | _ => pz⟩
theorem recs_eq : recsOf Q = [1, 2, 5, 7, 9, 10, 11, 12, 13, 14, 15, 16, 17, 18, 19].map recAt := by kernel_rfl
@[reducible] def TopQ (mean : ExcName → Option Value) (mg mb : Str → Option Value) (h : Heap) : Prop := Top Q (looseW Q LS) mean mg mb h

theorem fn_at {mg mb : Str → Option Value} {mean : ExcName → Option Value} {a : Addr} {h : Heap} (T : Top Q (looseW Q LS) mean mg mb h) (i : Nat) (hm : mg (fnName i) = some (.ref a)) (hi : i ∈ [1, 2, 5, 7, 9, 10, 11, 12, 13, 14, 15, 16, 17, 18, 19] := by decide) :
    ∃ o pm cd doc, h.get? a = some o ∧ o.data = .func (docDef (fnName i) (fnArgs i) (fnBody i) (fnScope i) pm cd doc) ∧ h.CodeRec cd (fnName i) := by
  obtain ⟨a', o, pm, cd, doc, h1, h2, h3, h4⟩ := T.fn (recAt i) (by rw [recs_eq]; exact List.mem_map_of_mem hi)
  have e : some (Value.ref a') = some (.ref a) := h1.symm.trans hm
  injection e with e
  injection e with e
  subst e
  exact ⟨o, pm, cd, doc, h2, h3, h4⟩

theorem depth_ok {d : Nat} (h : d < 600) : d < recursionLimit := by
  have : recursionLimit = 1000 := rfl
  omega

theorem keeps_fr {s : Shared} {h' : Heap} {tk L : Nat} {m : Str → Option Value} (F : Fr s.heap L h' m) : Keeps s { s with heap := h', toks := tk } := ⟨h', tk, rfl, F.keep⟩

/- cram -/
def cramT (x : Str) (n : Int) : Str :=
  if n < x.length then
    Txt.slice x none (some (if (n - 3).fdiv 2 > 0 then (n - 3).fdiv 2 else 0)) ++ Str.ofString "..." ++
      Txt.slice x (some (x.length - (if n - 3 - (if (n - 3).fdiv 2 > 0 then (n - 3).fdiv 2 else 0) > 0 then n - 3 - (if (n - 3).fdiv 2 > 0 then (n - 3).fdiv 2 else 0) else 0))) none
  else x
def StrEnd (s : Shared) (y : Str) (v : Value) (s' : Shared) : Prop := Keeps s s' ∧ ∃ t', v = .str y t'
theorem StrEnd.of {s s' : Shared} {y y' : Str} {t : Tok} (hk : Keeps s s') (e : y' = y) : StrEnd s y (.str y' t) s' := ⟨hk, t, by rw [e]⟩

section
variable {w : World} {mg mb : Str → Option Value} {mean : ExcName → Option Value} {s : Shared} {a : Addr} {d : Nat} {fr : Option (List Env)} {gs : Option (List Code)} {un : Nat}
theorem cram_call {x : Str} {n : Int} {t u : Tok} (T : Top Q (looseW Q LS) mean mg mb s.heap) (hm : mg (fnName 2) = some (.ref a)) (hd : d < 500) (hx : x.length ≤ 1000000) :
   wpAny (model pw w) ⟨none, d, fr, gs, un⟩ (PySem.call (.ref a) [.str x t, .int n u]) (StrEnd s (cramT x n)) (fun _ _ => False) s := by
  obtain ⟨o, pm, cd, doc, ho, hdt, hcd⟩ := fn_at T 2 hm
  refine wpAny_call ?_
  refine call_plain_ret (binds := [("text", .str x t), ("maxlen", .int n u)]) (depth_ok (show d < 600 by omega)) ho hdt T.nolimit hcd (by kernel_rfl) (locs (by kernel_rfl)) ?_ (by kernel_rfl) (by kernel_rfl) (by kernel_rfl) (by decide +kernel)
  intro h₁ F
  have N : News s.heap s.heap.objs.size h₁ [] := News.nil
  w_on
  w_top on
  with_unfolding_all refine wpAny_execs_cons ?_
  repeat' (first | walk1 | (dsimp only; walk1))
  · rename n < _ => hlt
    exact StrEnd.of (keeps_fr (by assumption)) (by unfold cramT; rw [if_pos hlt])
  · rename ¬ (n < _) => hlt
    exact StrEnd.of (keeps_fr (by assumption)) (by unfold cramT; rw [if_neg hlt])
end
end Mine
end
section
open PySem PySem.W PyProof.Rows PySem.Calls
set_option Elab.async false
set_option maxRecDepth 100000
set_option maxHeartbeats 4000000
namespace Mine

def mainEs (P : Params) : Array DictEntry := (nm P "__name__" 165 (tx "law_mq0272_01" 2235) :: (bootTail P ++ (globs P).take 17)).toArray
theorem mg_at {h : Heap} {mg : Str → Option Value} {P : Params} (hg : h.Ns mainGlobals mg) (h3 : h.get? 3 = some (MainO P)) (x : Str) : mg x = nsFind (mainEs P) x := by
  obtain ⟨o, es, ep, ho, hd, _, hf⟩ := hg
  have e : some o = some (MainO P) := ho.symm.trans h3
  injection e with e
  subst e
  have hd' : Data.dict (mainEs P) (9 + 17) = .dict es ep := hd
  injection hd' with e1 e2
  subst e1
  exact (hf x).symm
theorem mg_b1 {h : Heap} {mg : Str → Option Value} {w : World} (hg : h.Ns mainGlobals mg) (Y : YP w h) : mg (Str.ofString "b1_set") = some (.ref 36) := by rw [mg_at hg Y.1]; kernel_rfl
theorem mg_b3 {h : Heap} {mg : Str → Option Value} {w : World} (hg : h.Ns mainGlobals mg) (Y : YP w h) : mg (Str.ofString "b3_exceptions") = some (.ref 47) := by rw [mg_at hg Y.1]; kernel_rfl

theorem YP.keeps {w : World} {h h' : Heap} (Y : YP w h) (k : ∀ b o, h.get? b = some o → h'.get? b = some o) : YP w h' := ⟨k _ _ Y.1, k _ _ Y.2.1, k _ _ Y.2.2⟩

/- the set -/
def b1 (k : Int) : Bool := setEs.any fun e => e.1 == k
theorem setEs_ok : (setEs.all fun e => match e.2 with | .int k _ => k == e.1 && hashInt k == e.1 | _ => false) = true := by decide +kernel
theorem set36 {w : World} {h : Heap} (h36 : h.get? 36 = some (SetO w.params)) : h.SetOf (intKind pw w) 36 b1 27 := by
  have ok := List.all_eq_true.mp setEs_ok
  have key : ∀ e ∈ setEs, ∃ t, e.2 = .int e.1 t ∧ hashInt e.1 = e.1 := by
    intro e he
    have := ok e he
    obtain ⟨k, v⟩ := e
    cases v <;> simp only [Bool.false_eq_true, Bool.and_eq_true, beq_iff_eq] at this ⊢
    obtain ⟨rfl, h2⟩ := this
    exact ⟨_, rfl, h2⟩
  refine ⟨SetO w.params, setEs.toArray, 29, setTb (!w.params.followText "set-order"), h36, ⟨rfl, rfl, rfl⟩, rfl, ?_, ?_, by decide, by cases w.params.followText "set-order" <;> rfl, by decide⟩
  · intro e he
    obtain ⟨t, h1, h2⟩ := key e (by simpa using he)
    exact ⟨⟨e.1, by rw [h1]; simp [intKind, Value.isInt], h2.symm⟩, by rw [h1]; rfl⟩
  · intro k
    unfold b1
    rw [List.any_eq_true]
    constructor
    · rintro ⟨e, he, hk⟩
      obtain ⟨t, h1, _⟩ := key e he
      refine ⟨e, by simpa using he, ?_⟩
      rw [h1]
      simpa [intKind, Value.isInt] using hk
    · rintro ⟨e, he, hk⟩
      have he' : e ∈ setEs := by simpa using he
      obtain ⟨t, h1, _⟩ := key e he'
      rw [h1] at hk
      exact ⟨e, he', by simpa [intKind, Value.isInt] using hk⟩

/- the table -/
def TabEs : List DictEntry := Mst KV 38 ++ entsS 2214 (KV.drop 646)
def b3 (c : Int) : Option Str := (KV.find? fun x => x.1 == c).map (·.2)
theorem find_mapIdx {k : Int} : ∀ (l : List (Int × Str)) (f : Nat → Int × Str → DictEntry), (∀ i x, ∃ t u, (f i x).key = .int x.1 t ∧ (f i x).val = .str x.2 u) →
    match (l.find? fun x => x.1 == k).map (·.2) with
    | some y => ∃ u, ((l.mapIdx f).find? fun e => Value.isInt k e.key).map (·.val) = some (.str y u)
    | none => ((l.mapIdx f).find? fun e => Value.isInt k e.key).map (·.val) = none
  | [], f, _ => rfl
  | x :: l, f, hf => by
    rw [List.mapIdx_cons, List.find?_cons, List.find?_cons]
    obtain ⟨t, u, h1, h2⟩ := hf 0 x
    have e : Value.isInt k (f 0 x).key = (x.1 == k) := by rw [h1]; rfl
    rw [e]
    cases hx : x.1 == k with
    | true => exact ⟨u, by rw [← h2]; rfl⟩
    | false => exact find_mapIdx l _ fun i y => hf (i + 1) y
theorem find_app {k : Int} {a b : List (Int × Str)} {f g : Nat → Int × Str → DictEntry} (hf : ∀ i x, ∃ t u, (f i x).key = .int x.1 t ∧ (f i x).val = .str x.2 u) (hg : ∀ i x, ∃ t u, (g i x).key = .int x.1 t ∧ (g i x).val = .str x.2 u) :
    match ((a ++ b).find? fun x => x.1 == k).map (·.2) with
    | some y => ∃ u, ((a.mapIdx f ++ b.mapIdx g).find? fun e => Value.isInt k e.key).map (·.val) = some (.str y u)
    | none => ((a.mapIdx f ++ b.mapIdx g).find? fun e => Value.isInt k e.key).map (·.val) = none := by
  have h1 := find_mapIdx (k := k) a f hf
  have h2 := find_mapIdx (k := k) b g hg
  rw [List.find?_append, List.find?_append]
  cases ha : a.find? (fun x => x.1 == k) with
  | some x =>
    rw [ha] at h1
    obtain ⟨u, hu⟩ := h1
    obtain ⟨e, he, hv⟩ := Option.map_eq_some_iff.mp hu
    exact ⟨u, by rw [he]; exact congrArg some hv⟩
  | none =>
    rw [ha] at h1
    have h1' : (a.mapIdx f).find? (fun e => Value.isInt k e.key) = none := Option.map_eq_none_iff.mp h1
    rw [h1']
    exact h2
theorem tab_find (c : Int) : match b3 c with
    | some y => ∃ u, (TabEs.find? fun e => Value.isInt c e.key).map (·.val) = some (.str y u)
    | none => (TabEs.find? fun e => Value.isInt c e.key).map (·.val) = none := by
  have := find_app (k := c) (a := KV.take 646) (b := KV.drop 646) (f := entAt 276) (g := entS 2214) (fun i x => ⟨_, _, rfl, rfl⟩) (fun i x => ⟨_, _, rfl, rfl⟩)
  rw [List.take_append_drop] at this
  exact this
theorem tab_keys {w : World} : KeysOf (intKind pw w) TabEs.toArray := by
  intro e he
  have he' : e ∈ TabEs := by simpa using he
  have hsm : ∀ x ∈ KV, hashInt x.1 = x.1 := fun x hx => by
    have := KV_fine.small x hx
    unfold hashInt
    rw [rawHash_small this.1 this.2, if_neg (by simp only [beq_iff_eq]; omega)]
  rcases List.mem_append.mp he' with h | h
  · obtain ⟨i, hi, rfl⟩ := List.getElem_of_mem h
    simp only [Mst, entsOf, List.getElem_mapIdx, entAt]
    exact ⟨_, by simp [intKind, Value.isInt], (hsm _ (List.mem_of_mem_take (List.getElem_mem _))).symm⟩
  · obtain ⟨i, hi, rfl⟩ := List.getElem_of_mem h
    simp only [entsS, List.getElem_mapIdx, entS]
    exact ⟨_, by simp [intKind, Value.isInt], (hsm _ (List.mem_of_mem_drop (List.getElem_mem _))).symm⟩
theorem tab47 {w : World} {h : Heap} (h47 : h.get? 47 = some TabO) : h.MapOf (intKind pw w) 47 (fun k => findBy Value.isInt TabEs.toArray k) :=
  ⟨TabO, TabEs.toArray, 650, h47, ⟨rfl, rfl, rfl⟩, rfl, tab_keys, fun _ => rfl⟩
theorem tab_get (c : Int) : match b3 c with
    | some y => ∃ u, findBy Value.isInt TabEs.toArray c = some (.str y u)
    | none => findBy Value.isInt TabEs.toArray c = none := by
  have := tab_find c
  unfold findBy
  rw [List.find?_toArray]
  exact this

def map3 (c : Nat) : Str := match b3 c with
  | some y => y
  | none => Txt.lower { cps := #[c] }

def BoolEnd (s : Shared) (b : Bool) (v : Value) (s' : Shared) : Prop := Keeps s s' ∧ v = .bool b
abbrev ch (c : Nat) : Str := { cps := #[c] }

section
variable {w : World} {mg mb : Str → Option Value} {mean : ExcName → Option Value} {s : Shared} {a : Addr} {d : Nat} {fr : Option (List Env)} {gs : Option (List Code)} {un : Nat}

theorem ld_loose {M : Model} {A : Around} {E : Value → Shared → Prop} {name x : Str} {scope : Scope} {L a : Addr} {cd : Value} {h₀ : Heap} {m : Str → Option Value} {pos : Pos} {v : Value} {Q' : Value → Shared → Prop}
    (T : Top Q (looseW Q LS) mean mg mb h₀) (F : Fr h₀ L s.heap m) (hv : mg x = some v) (h : Q' v s) (hk : scope.kind = .function) (hx : scope.names.lookup x = some .globalImplicit) (hd : (x == ("__debug__" : Str)) = false) :
    wpAny M A (eval (.Name x pos) (envOf name scope L a cd)) Q' E s :=
  Name_function_global hk hx (loadGlobal_global (env := envOf name scope L a cd) (T.g.keeps F.keep) hv h) hd

theorem b1_call {c : Nat} {t : Tok} (T : Top Q (looseW Q LS) mean mg mb s.heap) (Y : YP w s.heap) (hm : mg (fnName 5) = some (.ref a)) (hd : d < 500) :
   wpAny (model pw w) ⟨none, d, fr, gs, un⟩ (PySem.call (.ref a) [.str (ch c) t]) (BoolEnd s (b1 c)) (fun _ _ => False) s := by
  obtain ⟨o, pm, cd, doc, ho, hdt, hcd⟩ := fn_at T 5 hm
  refine wpAny_call ?_
  refine call_plain_ret (binds := [("code", .str (ch c) t)]) (depth_ok (show d < 600 by omega)) ho hdt T.nolimit hcd (by kernel_rfl) (locs (by kernel_rfl)) ?_ (by kernel_rfl) (by kernel_rfl) (by kernel_rfl) (by decide +kernel)
  intro h₁ F
  have N : News s.heap s.heap.objs.size h₁ [] := News.nil
  w_on
  w_top on
  with_unfolding_all refine wpAny_execs_cons ?_
  repeat' (first | walk1 | (dsimp only; walk1))
  refine ld_loose T (by assumption) (mg_b1 T.g Y) ?_ (by kernel_rfl) (by kernel_rfl) (by decide)
  refine wpAny_inSet_of (k := (c : Int)) (by simp [intKind, Value.isInt]) rfl (set36 (F.keep _ _ Y.2.1)) ?_
  exact ⟨keeps_fr F, rfl⟩

end
end Mine
end
section
open PySem PySem.W PyProof.Rows PySem.Calls
set_option Elab.async false
set_option maxRecDepth 100000
set_option maxHeartbeats 4000000
namespace Mine
section
variable {w : World} {mg mb : Str → Option Value} {mean : ExcName → Option Value} {s : Shared} {a : Addr} {d : Nat} {fr : Option (List Env)} {gs : Option (List Code)} {un : Nat}
theorem b3_call {c : Nat} {t : Tok} (T : Top Q (looseW Q LS) mean mg mb s.heap) (Y : YP w s.heap) (hm : mg (fnName 7) = some (.ref a)) (hd : d < 500) :
   wpAny (model pw w) ⟨none, d, fr, gs, un⟩ (PySem.call (.ref a) [.str (ch c) t]) (StrEnd s (map3 c)) (fun _ _ => False) s := by
  obtain ⟨o, pm, cd, doc, ho, hdt, hcd⟩ := fn_at T 7 hm
  refine wpAny_call ?_
  refine call_plain_ret (binds := [("code", .str (ch c) t)]) (depth_ok (show d < 600 by omega)) ho hdt T.nolimit hcd (by kernel_rfl) (locs (by kernel_rfl)) ?_ (by kernel_rfl) (by kernel_rfl) (by kernel_rfl) (by decide +kernel)
  intro h₁ F
  have N : News s.heap s.heap.objs.size h₁ [] := News.nil
  w_on
  w_top on
  with_unfolding_all refine wpAny_execs_cons ?_
  repeat' (first | walk1 | (dsimp only; walk1))
  refine ld_loose T (by assumption) (mg_b3 T.g Y) ?_ (by kernel_rfl) (by kernel_rfl) (by decide)
  have hM := tab47 (w := w) (F.keep _ _ Y.2.2)
  refine getMethod_builtin (s := { s with heap := h₁, toks := _ }) hM.typeIs PySem.F.plainAttrs_dict PySem.F.slot_dict_get PySem.F.type_dict_get hM.noDict ?_
  refine wpAny_dict_get1 (knd := intKind pw w) (d := 47) rfl ?_
  refine wpAny_bind ?_
  iterate 6 (first | walk1 | (dsimp only; walk1))

  refine ⟨(c : Int), _, by simp [intKind, Value.isInt], hM, ?_⟩
  have hg := tab_get (c : Int)
  have hend : ∀ y, b3 (c : Int) = y → map3 c = (match y with | some y => y | none => Txt.lower { cps := #[c] }) := by rintro _ rfl; rfl
  cases hb : b3 (c : Int) with
  | some y =>
    have hend' := hend _ hb
    rw [hb] at hg
    obtain ⟨u, hu⟩ := hg
    rw [hu]
    dsimp only [Option.getD_some] at hend' ⊢
    rw [hend']
    repeat' (first | walk1 | (dsimp only; walk1))
    exact StrEnd.of (keeps_fr (by assumption)) rfl
  | none =>
    have hend' := hend _ hb
    rw [hb] at hg
    rw [hg]
    dsimp only [Option.getD_none] at hend' ⊢
    rw [hend']
    repeat' (first | walk1 | (dsimp only; walk1))
    refine SCL.lower (by show 1 ≤ _; omega) fun _ => ?_
    exact StrEnd.of (keeps_fr (by assumption)) rfl
end
end Mine
end
section
open PySem PySem.W PyProof.Rows PySem.Calls
set_option Elab.async false
set_option maxRecDepth 100000
set_option maxHeartbeats 4000000
namespace Mine
def IntEnd (s : Shared) (k : Int) (v : Value) (s' : Shared) : Prop := Keeps s s' ∧ ∃ t', v = .int k t'
theorem IntEnd.of {s s' : Shared} {y y' : Int} {t : Tok} (hk : Keeps s s') (e : y' = y) : IntEnd s y (.int y' t) s' := ⟨hk, t, by rw [e]⟩
section
variable {w : World} {mg mb : Str → Option Value} {mean : ExcName → Option Value} {s : Shared} {a : Addr} {d : Nat} {fr : Option (List Env)} {gs : Option (List Code)} {un : Nat}
theorem width_call {l : Addr} {k x : Int} {t u : Tok} (T : Top Q (looseW Q LS) mean mg mb s.heap) (hm : mg (fnName 14) = some (.ref a)) (hd : d < 500) (hl : s.heap.IsList l #[.int k t, .int x u]) :
   wpAny (model pw w) ⟨none, d, fr, gs, un⟩ (PySem.call (.ref a) [.ref l]) (IntEnd s (if k = 31 then x else k - 10)) (fun _ _ => False) s := by
  obtain ⟨o, pm, cd, doc, ho, hdt, hcd⟩ := fn_at T 14 hm
  refine wpAny_call ?_
  refine call_plain_ret (binds := [("step", .ref l)]) (depth_ok (show d < 600 by omega)) ho hdt T.nolimit hcd (by kernel_rfl) (locs (by kernel_rfl)) ?_ (by kernel_rfl) (by kernel_rfl) (by kernel_rfl) (by decide +kernel)
  intro h₁ F
  have N : News s.heap s.heap.objs.size h₁ [] := News.nil
  have hl₁ := F.lst hl
  w_on
  w_top on
  with_unfolding_all refine wpAny_execs_cons ?_
  repeat' (first | walk1 | (dsimp only; walk1))
  · exact IntEnd.of (keeps_fr F) (by simp_all)
  · exact IntEnd.of (keeps_fr F) (by simp_all)
end
end Mine
end
section
open PySem PySem.W PyProof.Rows PySem.Calls
set_option Elab.async false
set_option maxRecDepth 100000
set_option maxHeartbeats 4000000
namespace Mine
section
variable {prog : Program} {w : World} {A : Around} {s : Shared} {env : Env} {h₀ : Heap}

def Turned (h₀ : Heap) (L : Addr) (fp wr : List Addr) (J : (Str → Option Value) → List (Addr × Obj) → Prop) (s₁ : Shared) (f : Flow) (s₂ : Shared) : Prop :=
  f = .next ∧ ∃ h' tk m₂ led₂, s₂ = { s₁ with heap := h', toks := tk } ∧ Fr h₀ L h' m₂ ∧ News h₀ L h' led₂ ∧ (∀ p ∈ led₂, p.1 ∉ wr) ∧ J m₂ led₂ ∧ ∀ b ∈ fp, ∀ o, s₁.heap.get? b = some o → h'.get? b = some o

theorem for_led {R : Result → Shared → Prop} {x : Str} {px : Pos} {body : List Stmt} {I : Addr} {fp wr : List Addr} {n : Nat} {P : Nat → Value → Prop} {St : Nat → Heap → Prop} {m : Str → Option Value} {led : List (Addr × Obj)}
    (W : Walks prog w A I fp wr n P St) (hx : env.kindOf x = some .local)
    (hp : (env.scope.kind == .class || (env.scope.kind == .module && env.locals != env.globals)) = false)
    (hLf : env.locals ∉ fp) (hwr : ∀ b ∈ wr, h₀.get? b = none) (hst : St 0 s.heap) (F : Fr h₀ env.locals s.heap m) (N : News h₀ env.locals s.heap led) (hoff : ∀ p ∈ led, p.1 ∉ wr)
    (J : Nat → (Str → Option Value) → List (Addr × Obj) → Prop) (h0 : J 0 m led)
    (step : ∀ i v m₁ led₁ h₁ tk₁, i < n → P i v → J i m₁ led₁ → Fr h₀ env.locals h₁ (fun y => if y = x then some v else m₁ y) → News h₀ env.locals h₁ led₁ → (∀ p ∈ led₁, p.1 ∉ wr) → St (i + 1) h₁ →
      wpAny (model prog w) A (execs body env) (Turned h₀ env.locals fp wr (J (i + 1)) { s with heap := h₁, toks := tk₁ }) (notedBy (model prog w) A env fun e s' => R (.error e) s') { s with heap := h₁, toks := tk₁ })
    (hR : ∀ h' tk m' led', Fr h₀ env.locals h' m' → News h₀ env.locals h' led' → J n m' led' → R (.ok .next) { s with heap := h', toks := tk }) :
    codeAny (model prog w) A (.forLoop (.Name x px) (.ref I) body [] env) R s := by
  have hLw : env.locals ∉ wr := fun h => hLf (W.sub _ h)
  have old : ∀ b o, h₀.get? b = some o → b ∉ wr := fun b o e hb => by rw [hwr b hb] at e; cases e
  refine codeAny_forLoop
    (fun k s' => ∃ h' tk m' led' i, s' = { s with heap := h', toks := tk } ∧ St i h' ∧ Fr h₀ env.locals h' m' ∧ News h₀ env.locals h' led' ∧ (∀ p ∈ led', p.1 ∉ wr) ∧ J i m' led' ∧ i ≤ n ∧ k = n + 1 - i) ?_ (n + 1)
    ⟨s.heap, s.toks, m, led, 0, rfl, hst, F, N, hoff, h0, Nat.zero_le _, rfl⟩
  rintro k s' ⟨h', tk, m', led', i, rfl, hst', F', N', hoff', hJ, hi, rfl⟩
  have next : ∀ h₁ : Heap, (∀ b o, b ∉ wr → h'.get? b = some o → h₁.get? b = some o) → Fr h₀ env.locals h₁ m' ∧ News h₀ env.locals h₁ led' := fun h₁ hk₁ =>
    ⟨⟨F'.ns.at' fun o e => hk₁ _ o hLw e, fun b o e => hk₁ b o (old b o e) (F'.keep b o e), F'.above⟩, fun p hp => ⟨hk₁ _ _ (hoff' p hp) (N' p hp).1, (N' p hp).2⟩⟩
  by_cases hlt : i < n
  · refine W.item i _ _ _ hlt hst' fun v h₁ tk₁ hP hst₁ hk₁ => ?_
    obtain ⟨F₁, N₁⟩ := next h₁ hk₁
    refine wpAny_assign_Name (wpAny_storeName_local hx F₁.ns (fun h₂ hn₂ hs₂ => ?_) hp)
    have hst₂ : St (i + 1) h₂ := W.frame _ _ _ hst₁ fun b hb o e => (hs₂.2 b fun q => hLf (q ▸ hb)).trans e
    refine wpAny_mono (step i v m' led' h₂ (tk₁ + 1) hlt hP hJ (F₁.set hn₂ hs₂) (N₁.set hs₂) hoff' hst₂) (fun f s₃ h₃ => ?_) fun _ _ e => e
    obtain ⟨rfl, h₃', tk₃, m₂, led₂, rfl, F₃, N₃, hoff₃, hJ₃, hfp₃⟩ := h₃
    exact ⟨n + 1 - (i + 1), by omega, h₃', tk₃, m₂, led₂, i + 1, rfl, W.frame _ _ _ hst₂ hfp₃, F₃, N₃, hoff₃, hJ₃, hlt, rfl⟩
  · have hin : i = n := by omega
    subst hin
    refine W.done _ _ _ hst' fun h₁ tk₁ hk₁ => wpAny_execs_nil ?_
    obtain ⟨F₁, N₁⟩ := next h₁ hk₁
    exact hR h₁ tk₁ m' led' F₁ N₁ hJ

structure ForAt (prog : Program) (w : World) (A : Around) (h₀ : Heap) (env : Env) (x : Str) (body : List Stmt) (Q : Flow → Shared → Prop) (E : Value → Shared → Prop) (it : Value) (s₂ : Shared) (n : Nat) (P : Nat → Value → Prop)
    (m : Str → Option Value) (led : List (Addr × Obj)) (J : Nat → (Str → Option Value) → List (Addr × Obj) → Prop) (I : Addr) (fp wr : List Addr) (St : Nat → Heap → Prop) : Prop where
  isI : it = .ref I
  W : Walks prog w A I fp wr n P St
  hLf : env.locals ∉ fp
  hwr : ∀ b ∈ wr, h₀.get? b = none
  hst : St 0 s₂.heap
  F : Fr h₀ env.locals s₂.heap m
  N : News h₀ env.locals s₂.heap led
  hoff : ∀ p ∈ led, p.1 ∉ wr
  h0 : J 0 m led
  step : ∀ i v m₁ led₁ h₁ tk₁, i < n → P i v → J i m₁ led₁ → Fr h₀ env.locals h₁ (fun y => if y = x then some v else m₁ y) → News h₀ env.locals h₁ led₁ → (∀ p ∈ led₁, p.1 ∉ wr) → St (i + 1) h₁ →
      wpAny (model prog w) A (execs body env) (Turned h₀ env.locals fp wr (J (i + 1)) { s₂ with heap := h₁, toks := tk₁ }) E { s₂ with heap := h₁, toks := tk₁ }
  hQ : ∀ h' tk m' led', Fr h₀ env.locals h' m' → News h₀ env.locals h' led' → J n m' led' → Q .next { s₂ with heap := h', toks := tk }

theorem For_led {E : Value → Shared → Prop} {Q : Flow → Shared → Prop} {x : Str} {px pos : Pos} {iter : Expr} {body : List Stmt} (h₀ : Heap) (hx : env.kindOf x = some .local)
    (hp : (env.scope.kind == .class || (env.scope.kind == .module && env.locals != env.globals)) = false)
    (h : wpAny (model prog w) A (eval iter env) (fun xv s₁ => wpAny (model prog w) A (pyIter xv) (fun it s₂ => ∃ n P m led J I fp wr St, ForAt prog w A h₀ env x body Q E it s₂ n P m led J I fp wr St) E s₁) E s)
    (hs : ∀ x, foldedSetIterable iter env x = pure x := by intro _; rfl)
    (hE : PassesOwn (model prog w) A env E := by passes_own) :
    wpAny (model prog w) A (exec (.For (.Name x px) iter body [] pos) env) Q E s := by
  refine wpAny_For (wpAny_mono h (fun xv s₁ h₁ => wpAny_mono h₁ (fun it s₂ h₂ => ?_) fun _ _ e => e) fun _ _ e => e) hs
  obtain ⟨n, P, m, led, J, I, fp, wr, St, X⟩ := h₂
  obtain rfl := X.isI
  exact for_led (R := fun r s' => match r with | .ok f => Q f s' | .error e => cameBackBy (model prog w) A env E e s') X.W hx hp X.hLf X.hwr X.hst X.F X.N X.hoff J X.h0 (by intros; exact wpAny_passesOwn hE (by apply X.step <;> assumption)) X.hQ
end
end Mine
end
section
open PySem PySem.W PyProof.Rows PySem.Calls
set_option Elab.async false
set_option maxRecDepth 100000
set_option maxHeartbeats 4000000
namespace Mine
def LstEnd (s : Shared) (ys : List Str) (v : Value) (s' : Shared) : Prop := Keeps s s' ∧ ∃ l vs, v = .ref l ∧ s.heap.get? l = none ∧ s'.heap.PlainList l (List.toArray vs) ∧ StrsAre vs ys
theorem strsAre_append : ∀ {vs ws : List Value} {xs ys : List Str}, StrsAre vs xs → StrsAre ws ys → StrsAre (vs ++ ws) (xs ++ ys)
  | _, _, _, _, .nil, h => h
  | _, _, _, _, .cons y t h', h => .cons y t (strsAre_append h' h)
theorem strsAre_length : ∀ {vs : List Value} {xs : List Str}, StrsAre vs xs → vs.length = xs.length
  | _, _, .nil => rfl
  | _, _, .cons _ _ h => congrArg (· + 1) (strsAre_length h)
theorem strsAre_get : ∀ {vs : List Value} {xs : List Str}, StrsAre vs xs → ∀ {i : Nat} {v : Value}, vs[i]? = some v → ∃ y t, v = .str y t ∧ xs[i]? = some y
  | _, _, .nil, i, v, h => by simp at h
  | _, _, .cons y t h', 0, v, h => ⟨y, t, by simpa using h.symm, rfl⟩
  | _, _, .cons y t h', i + 1, v, h => strsAre_get h' (by simpa using h)
def distF (acc : List Nat) (c : Nat) : List Nat := if c ∈ acc then acc else acc ++ [c]
def dist (l : List Nat) : List Nat := l.foldl distF []

section
variable {w : World} {mg mb : Str → Option Value} {mean : ExcName → Option Value} {s : Shared} {a : Addr} {d : Nat} {fr : Option (List Env)} {gs : Option (List Code)} {un : Nat}
theorem distinct_call {x : Str} {t : Tok} (T : Top Q (looseW Q LS) mean mg mb s.heap) (hm : mg (fnName 12) = some (.ref a)) (hd : d < 500) (hx : x.length ≤ 1000000) :
   wpAny (model pw w) ⟨none, d, fr, gs, un⟩ (PySem.call (.ref a) [.str x t]) (LstEnd s ((dist x.cps.toList).map ch)) (fun _ _ => False) s := by
  obtain ⟨o, pm, cd, doc, ho, hdt, hcd⟩ := fn_at T 12 hm
  refine wpAny_call ?_
  refine call_plain_ret (binds := [("text", .str x t)]) (depth_ok (show d < 600 by omega)) ho hdt T.nolimit hcd (by kernel_rfl) (locs (by kernel_rfl)) ?_ (by kernel_rfl) (by kernel_rfl) (by kernel_rfl) (by decide +kernel)
  intro h₁ F
  have N : News s.heap s.heap.objs.size h₁ [] := News.nil
  w_on
  w_top on
  with_unfolding_all refine wpAny_execs_cons ?_
  iterate 5 (first | walk1 | (dsimp only; walk1))
  rename_i h2 F2 N2 h3 F3 N3
  have hl : ∃ l, l = h₁.objs.size := ⟨_, rfl⟩
  obtain ⟨l, hl⟩ := hl
  have N3' : News s.heap s.heap.objs.size h3 [(l, { cls := .type "list", data := .seq #[] })] := by rw [hl]; exact N3
  have F3' : Fr s.heap s.heap.objs.size h3 (fun y => if y = Str.ofString "signs" then some (Value.ref l) else List.lookup y [(Str.ofString "text", Value.str x t)].reverse) := by rw [hl]; exact F3
  clear F2 N2 N3 F3 hl
  refine wpAny_execs_cons ?_
  refine For_led s.heap (by kernel_rfl) (by kernel_rfl) ?_
  walk1
  refine wpAny_pyIter_str fun oI St hW hst => ?_
  dsimp only at hW hst ⊢
  have hne : l ≠ h3.objs.size := Nat.ne_of_lt (Heap.lt_size (N3'.get (.head _)))
  refine ⟨x.cps.size, SignAt x, _, _, fun i m led => (∀ y, y ≠ Str.ofString "c" → m y = (if y = Str.ofString "signs" then some (Value.ref l) else List.lookup y [(Str.ofString "text", Value.str x t)].reverse)) ∧
      ∃ vs n, led = [(l, { cls := .type "list", data := .seq (List.toArray vs) n })] ∧ StrsAre vs ((dist (x.cps.toList.take i)).map ch) ∧ vs.length ≤ i, _, _, _, St,
    { isI := rfl, W := hW _ rfl, hLf := ?_, hwr := ?_, hst := hst, F := F3'.push _, N := N3'.pushKeep oI, hoff := ?_, h0 := ?_, step := ?_, hQ := ?_ }⟩
  · intro hb
    have := F3'.ns.lt
    simp only [List.mem_singleton] at hb
    exact absurd hb (Nat.ne_of_lt this)
  · intro b hb
    simp only [List.mem_singleton] at hb
    subst hb
    exact F3'.fresh
  · intro p hp hb
    simp only [List.mem_singleton] at hp hb
    subst hp
    exact hne hb
  · exact ⟨fun y _ => rfl, [], 0, rfl, .nil, Nat.le_refl _⟩
  · intro i v m₁ led₁ h₅ tk₅ hi hP hJ F5 N5 hoff5 hst5
    obtain ⟨hm₁, vs, n, rfl, hS, hvl⟩ := hJ
    obtain ⟨c, u, hc, rfl⟩ := hP
    have F6 : Fr s.heap s.heap.objs.size h₅ (fun y => if y = Str.ofString "c" then some (Value.str ⟨#[c]⟩ u) else if y = Str.ofString "signs" then some (Value.ref l) else List.lookup y [(Str.ofString "text", Value.str x t)].reverse) := by
      have e : (fun y => if y = Str.ofString "c" then some (Value.str ⟨#[c]⟩ u) else m₁ y) = (fun y => if y = Str.ofString "c" then some (Value.str ⟨#[c]⟩ u) else if y = Str.ofString "signs" then some (Value.ref l) else List.lookup y [(Str.ofString "text", Value.str x t)].reverse) := by
        funext y
        by_cases hy : y = Str.ofString "c"
        · rw [if_pos hy, if_pos hy]
        · rw [if_neg hy, if_neg hy, hm₁ y hy]
      rw [← e]; exact F5
    clear F5
    have hL5 : h₅.IsList l (List.toArray vs) := ⟨_, N5.get (.head _), rfl, n, rfl⟩
    have hlI : l ≠ h3.objs.size := hne
    have hc' : x.cps.toList[i]? = some c := by simpa using hc
    have hdist : dist (x.cps.toList.take (i + 1)) = distF (dist (x.cps.toList.take i)) c := by
      unfold dist
      rw [take_snoc hc', List.foldl_append]
      rfl
    dsimp only
    refine wpAny_execs_cons ?_
    iterate 4 (first | walk1 | (dsimp only; walk1))
    refine notin_list_strs hL5 hS ?_
    walk1
    have hany : (((dist (x.cps.toList.take i)).map ch).any fun y => y == { cps := #[c] }) = decide (c ∈ dist (x.cps.toList.take i)) := by
      rw [Bool.eq_iff_iff]
      simp only [List.any_eq_true, decide_eq_true_eq, List.mem_map]
      constructor
      · rintro ⟨y, ⟨e, he, rfl⟩, hy⟩
        have : ch e = ch c := by simpa using hy
        have e2 : e = c := by injection this with q; injection q with q; injection q
        exact e2 ▸ he
      · intro hin
        exact ⟨ch c, ⟨c, hin, rfl⟩, by simp⟩
    rw [hany]
    by_cases hin : c ∈ dist (x.cps.toList.take i)
    · rw [if_neg (by simp [hin])]
      refine wpAny_execs_nil (wpAny_execs_nil ?_)
      refine ⟨rfl, h₅, tk₅, _, _, rfl, F6, N5, hoff5, ⟨fun y hy => if_neg hy, vs, n, rfl, ?_, by omega⟩, fun b _ o e => e⟩
      rw [hdist, distF, if_pos hin]; exact hS
    · rw [if_pos (by simp [hin])]
      refine wpAny_execs_cons ?_
      iterate 3 (first | walk1 | (dsimp only; walk1))
      refine getMethod_builtin (s := { s with heap := h₅, toks := tk₅ }) hL5.typeIs PySem.F.plainAttrs_list PySem.F.slot_list_append PySem.F.type_list_append (fun b e => by cases e; exact ⟨_, N5.get (.head _), rfl⟩) ?_
      iterate 4 (first | walk1 | (dsimp only; walk1))
      refine wpAny_list_append_plain (items := List.toArray vs) ⟨n, N5.get (.head _)⟩ (fun h₆ hpl hs => ?_) (by
        have : i ≤ 1000000 := by have := (Array.getElem?_eq_some_iff.mp hc).1; have h2 : x.cps.size = x.length := rfl; omega
        rw [List.size_toArray, sizeLine_eq]; omega)
      obtain ⟨n', hn'⟩ := hpl
      have hfr := N5.fresh (.head _)
      have hLne : l ≠ s.heap.objs.size := N5.ne_locals (.head _)
      refine wpAny_execs_nil (wpAny_execs_nil ?_)
      refine ⟨rfl, h₆, tk₅, _, [(l, { cls := .type "list", data := .seq (List.toArray (vs ++ [Value.str ⟨#[c]⟩ u])) n' })], rfl, F6.change hs hLne hfr, ?_, ?_, ⟨fun y hy => if_neg hy, vs ++ [Value.str ⟨#[c]⟩ u], n', rfl, ?_, ?_⟩, ?_⟩
      · intro p hp
        simp only [List.mem_singleton] at hp
        subst hp
        refine ⟨?_, hLne, hfr⟩
        rw [hn', List.push_toArray]
      · exact fun p hp => by simp only [List.mem_singleton] at hp; subst hp; exact (show l ∉ _ from hoff5 _ (List.mem_singleton.mpr rfl))
      · rw [hdist, distF, if_neg hin, List.map_append]
        exact strsAre_append hS (.cons _ _ .nil)
      · rw [List.length_append]; simp only [List.length_cons, List.length_nil]; omega
      · intro b hb o e
        refine hs.extBut b o ?_ e
        simp only [List.mem_singleton] at hb
        rw [hb]
        exact hne.symm
  · intro h' tk m' led' F' N' hJ
    obtain ⟨hm', vs, n, rfl, hS, hvl⟩ := hJ
    dsimp only
    have hcs : (x.cps.toList.take x.cps.size) = x.cps.toList := by rw [← Array.length_toList, List.take_length]
    rw [hcs] at hS
    refine wpAny_execs_cons ?_
    refine wpAny_Return_some ?_
    refine ld F' (by rw [hm' _ (by decide)]; rfl) ?_ (by kernel_rfl) (by kernel_rfl) (by decide)
    exact ⟨keeps_fr F', l, vs, rfl, N'.fresh (.head _), ⟨n, N'.get (.head _)⟩, hS⟩
end
end Mine
end
section
open PySem PySem.W PyProof.Rows PySem.Calls
set_option Elab.async false
set_option maxRecDepth 100000
set_option maxHeartbeats 4000000
namespace Mine
theorem news_keep {h₀ h h' : Heap} {L : Addr} {news : List (Addr × Obj)} (N : News h₀ L h news) (hk : ∀ b o, h.get? b = some o → h'.get? b = some o) : News h₀ L h' news := fun p hp => ⟨hk _ _ (N p hp).1, (N p hp).2⟩
def g3 (c : Nat) : Str := if b1 c then Str.ofString "" else map3 c
def pairsOf (cs : List Nat) : List Str := cs.flatMap fun c => [ch c, g3 c]
theorem mg_fn {h : Heap} {mg : Str → Option Value} {w : World} (hg : h.Ns mainGlobals mg) (Y : YP w h) (x : Str) (a : Addr) (e : nsFind (mainEs w.params) x = some (.ref a)) : mg x = some (.ref a) := by rw [mg_at hg Y.1]; exact e

section
variable {w : World} {mg mb : Str → Option Value} {mean : ExcName → Option Value} {s : Shared} {a : Addr} {d : Nat} {fr : Option (List Env)} {gs : Option (List Code)} {un : Nat}
theorem callFn {A : Around} {M : Model} {env : Env} {pos : Pos} {h₀ : Heap} {e : Expr} {rest : List Expr} {Q' : Value → Shared → Prop} {E : Value → Shared → Prop} (T : Top Q (looseW Q LS) mean mg mb h₀) (i : Nat) (hm : mg (fnName i) = some (.ref a))
    (h : wpAny M A (spliced (backTo pos (starEach (e :: rest) env))) (fun vs s₁ => (∀ b o, h₀.get? b = some o → s₁.heap.get? b = some o) ∧ wpAny M A (PySem.call (.ref a) vs) Q' E s₁) E s)
    (hi : i ∈ [1, 2, 5, 7, 9, 10, 11, 12, 13, 14, 15, 16, 17, 18, 19] := by decide) (he : starEach (e :: rest) env = (false, eval e env) :: starEach rest env := by rfl) :
    wpAny M A (callWith pos (.ref a) [] (backTo pos (starEach (e :: rest) env)) []) Q' E s := by
  obtain ⟨o, pm, cd, doc, ho, hdt, hcd⟩ := fn_at T i hm hi
  exact callWith_meth hdt ho (wpAny_mono h (fun vs s₁ h₁ => ⟨h₁.1, by simpa using h₁.2⟩) fun _ _ x => x) he

theorem pairs_call {l : Addr} {vs : List Value} {cs : List Nat} (T : Top Q (looseW Q LS) mean mg mb s.heap) (Y : YP w s.heap) (hm : mg (fnName 13) = some (.ref a)) (hd : d < 400) (hl : s.heap.IsList l (List.toArray vs)) (hS : StrsAre vs (cs.map ch)) (hn : cs.length ≤ 1000000) :
   wpAny (model pw w) ⟨none, d, fr, gs, un⟩ (PySem.call (.ref a) [.ref l]) (LstEnd s (pairsOf cs)) (fun _ _ => False) s := by
  obtain ⟨o, pm, cd, doc, ho, hdt, hcd⟩ := fn_at T 13 hm
  refine wpAny_call ?_
  refine call_plain_ret (binds := [("signs", .ref l)]) (depth_ok (show d < 600 by omega)) ho hdt T.nolimit hcd (by kernel_rfl) (locs (by kernel_rfl)) ?_ (by kernel_rfl) (by kernel_rfl) (by kernel_rfl) (by decide +kernel)
  intro h₁ F
  have N : News s.heap s.heap.objs.size h₁ [] := News.nil
  w_on
  w_top on
  with_unfolding_all refine wpAny_execs_cons ?_
  iterate 5 (first | walk1 | (dsimp only; walk1))
  rename_i h2 F2 N2 h3 F3 N3
  have hp0 : ∃ p, p = h₁.objs.size := ⟨_, rfl⟩
  obtain ⟨p, hp0⟩ := hp0
  have N3' : News s.heap s.heap.objs.size h3 [(p, { cls := .type "list", data := .seq #[] })] := by rw [hp0]; exact N3
  have F3' : Fr s.heap s.heap.objs.size h3 (fun y => if y = Str.ofString "pairs" then some (Value.ref p) else List.lookup y [(Str.ofString "signs", Value.ref l)].reverse) := by rw [hp0]; exact F3
  clear F2 N2 N3 F3 hp0
  have hlen := strsAre_length hS
  rw [List.length_map] at hlen
  refine wpAny_execs_cons ?_
  refine For_led s.heap (by kernel_rfl) (by kernel_rfl) ?_
  walk1
  have hl3 := F3'.lst hl
  have hlI : l ≠ h3.objs.size := let ⟨_, ho, _⟩ := hl3; Nat.ne_of_lt (Heap.lt_size ho)
  refine wpAny_pyIter_list hl3 ?_
  dsimp only
  have hpI : p ≠ h3.objs.size := Nat.ne_of_lt (Heap.lt_size (N3'.get (.head _)))
  refine ⟨vs.length, _, _, _, fun i m led => (∀ y, y ≠ Str.ofString "c" → y ≠ Str.ofString "pairs" → m y = List.lookup y [(Str.ofString "signs", Value.ref l)].reverse) ∧
      ∃ p ws n, m (Str.ofString "pairs") = some (.ref p) ∧ led = [(p, { cls := .type "list", data := .seq (List.toArray ws) n })] ∧ StrsAre ws (pairsOf (cs.take i)), _, _, _, _,
    { isI := rfl, W := Walks.list rfl h3.objs.size l hlI (List.toArray vs), hLf := ?_, hwr := ?_, hst := ?_, F := F3'.push _, N := N3'.pushKeep _, hoff := ?_, h0 := ?_, step := ?_, hQ := ?_ }⟩
  · intro hb
    have := F3'.ns.lt
    simp only [List.mem_cons, List.not_mem_nil, or_false] at hb
    rcases hb with hb | hb
    · exact absurd hb (Nat.ne_of_lt this)
    · obtain ⟨_, ho, _⟩ := hl
      exact absurd (Heap.lt_size ho) (by rw [← hb]; exact Nat.lt_irrefl _)
  · intro b hb
    simp only [List.mem_singleton] at hb
    subst hb
    exact F3'.fresh
  · exact ⟨⟨_, Heap.get?_push_size _ rfl, rfl, rfl⟩, hl3.at fun o e => Heap.get?_push_of_some _ e⟩
  · intro q hq hb
    simp only [List.mem_singleton] at hq hb
    subst hq
    exact hpI hb
  · exact ⟨fun y _ hy => if_neg hy, p, [], 0, if_pos rfl, rfl, .nil⟩
  · intro i v m₁ led₁ h₅ tk₅ hi hP hJ F5 N5 hoff5 hst5
    obtain ⟨hm₁, pi, ws, n, hpi, rfl, hW⟩ := hJ

    rw [List.getElem?_toArray] at hP
    obtain ⟨y, u, rfl, hy⟩ := strsAre_get hS hP
    rw [List.getElem?_map] at hy
    obtain ⟨c, hc, rfl⟩ := Option.map_eq_some_iff.mp hy
    have F6 : Fr s.heap s.heap.objs.size h₅ (fun y => if y = Str.ofString "c" then some (Value.str (ch c) u) else if y = Str.ofString "pairs" then some (Value.ref pi) else List.lookup y [(Str.ofString "signs", Value.ref l)].reverse) := by
      have e : (fun y => if y = Str.ofString "c" then some (Value.str (ch c) u) else m₁ y) = (fun y => if y = Str.ofString "c" then some (Value.str (ch c) u) else if y = Str.ofString "pairs" then some (Value.ref pi) else List.lookup y [(Str.ofString "signs", Value.ref l)].reverse) := by
        funext y
        by_cases hy : y = Str.ofString "c"
        · rw [if_pos hy, if_pos hy]
        · rw [if_neg hy, if_neg hy]
          by_cases hy2 : y = Str.ofString "pairs"
          · rw [if_pos hy2, hy2, hpi]
          · rw [if_neg hy2, hm₁ y hy hy2]
      rw [← e]; exact F5
    clear F5
    obtain ⟨oI, hoI, hoI2⟩ := hst5.1
    have N6 : News s.heap s.heap.objs.size h₅ [(h3.objs.size, oI), (pi, { cls := .type "list", data := .seq (List.toArray ws) n })] := by
      intro q hq
      rcases List.mem_cons.mp hq with rfl | hq
      · exact ⟨hoI, Nat.ne_of_gt F3'.ns.lt, F3'.fresh⟩
      · exact N5 q hq
    dsimp only
    refine wpAny_execs_cons ?_
    iterate 10 (first | walk1 | (dsimp only; walk1))
    refine ld_loose T F6 (mg_fn T.g Y _ 46 (by kernel_rfl)) ?_ (by kernel_rfl) (by kernel_rfl) (by decide)
    refine callFn T 5 (mg_fn T.g Y _ 46 (by kernel_rfl)) ?_
    iterate 3 (first | walk1 | (dsimp only; walk1))
    refine ⟨F6.keep, ?_⟩
    have T5 := T.keeps F6.keep
    have Y5 := Y.keeps F6.keep
    refine wpAny_mono (b1_call (d := d + 1) T5 Y5 (mg_fn T5.g Y5 _ 46 (by kernel_rfl)) (by omega)) (fun v s' hv => ?_) (fun _ _ x => x)
    obtain ⟨⟨h7, tk7, rfl, hk7⟩, rfl⟩ := hv
    have F7 := F6.keeps hk7
    have N7 := news_keep N6 hk7
    walk1
    by_cases hb : b1 (c : Int) = true
    · rw [if_pos hb]
      walk1
      have hg : g3 c = Str.ofString "" := by unfold g3; rw [if_pos hb]
      obtain ⟨h8, F8, N8, e8⟩ : ∃ h8, ∃ (_ : Fr s.heap s.heap.objs.size h8 (fun y => if y = Str.ofString "c" then some (Value.str (ch c) u) else if y = Str.ofString "pairs" then some (Value.ref pi) else List.lookup y [(Str.ofString "signs", Value.ref l)].reverse))
        (_ : News s.heap s.heap.objs.size h8 [(h3.objs.size, oI), (pi, { cls := .type "list", data := .seq (List.toArray ws) n })]), h8 = h7 := ⟨h7, F7, N7, rfl⟩
      subst e8
      obtain ⟨tt, htt⟩ : ∃ tt, tt = tk7 := ⟨_, rfl⟩
      rw [← hg, ← htt]
      clear htt
      refine spliced_none ?_
      refine newList_N F8 N8 (fun h9 F9 N9 => ?_) (by show 2 ≤ sizeLine; decide)
      have hne9 : h3.objs.size ≠ h9.objs.size := Nat.ne_of_lt (Heap.lt_size (N9.get (.tail _ (.head _))))
      refine add_arrays F9 N9 (its := List.toArray ws) (its2 := List.toArray [Value.str (ch c) u, Value.str (g3 c) tt]) ⟨_, N9.get (.tail _ (.tail _ (.head _))), rfl, n, rfl⟩ ⟨_, N9.get (.head _), rfl, 0, rfl⟩ (fun h10 F10 N10 => ?_) (by
        have := strsAre_length hW
        have hl2 : (pairsOf (cs.take i)).length ≤ 2 * cs.length := by
          unfold pairsOf
          rw [List.length_flatMap]
          have : ((cs.take i).map fun a => [ch a, g3 a].length) = (cs.take i).map fun _ => 2 := rfl
          rw [this, List.map_const', List.sum_replicate_nat, List.length_take]
          omega
        rw [List.size_toArray, List.size_toArray, sizeLine_eq]
        simp only [List.length_cons, List.length_nil]
        omega)
      refine stN F10 N10 (fun h11 F11 N11 => ?_) (by kernel_rfl) (by kernel_rfl)
      refine wpAny_execs_nil ?_
      refine ⟨rfl, h11, _, _, [(h9.objs.size, { cls := .type "list", data := .seq (List.toArray (ws ++ [Value.str (ch c) u, Value.str (g3 c) tt])) 0 })], rfl, F11, ?_, ?_, ⟨fun y h1 h2 => ?_, h9.objs.size, ws ++ [Value.str (ch c) u, Value.str (g3 c) tt], 0, rfl, rfl, ?_⟩, ?_⟩
      · intro q hq
        simp only [List.mem_singleton] at hq
        subst hq
        exact N11 _ (.head _)
      · intro q hq hb
        simp only [List.mem_singleton] at hq hb
        subst hq
        exact hne9 hb.symm
      · show (if y = Str.ofString "pairs" then _ else _) = _
        rw [if_neg h2, if_neg h1, if_neg h2]
      · unfold pairsOf
        rw [take_snoc hc, List.flatMap_append]
        exact strsAre_append hW (.cons _ _ (.cons _ _ .nil))
      · intro b hb ob eb
        simp only [List.mem_cons, List.not_mem_nil, or_false] at hb
        rcases hb with rfl | rfl
        · have e1 : some oI = some ob := hoI.symm.trans eb
          injection e1 with e1
          subst e1
          exact (N11 _ (.tail _ (.tail _ (.head _)))).1
        · obtain ⟨ol, hol, _⟩ := hl
          have e1 : some ol = some ob := (F6.keep _ _ hol).symm.trans eb
          injection e1 with e1
          subst e1
          exact F11.keep _ _ hol

    · rw [if_neg hb]
      walk1
      refine ld_loose T F7 (mg_fn T.g Y _ 92 (by kernel_rfl)) ?_ (by kernel_rfl) (by kernel_rfl) (by decide)
      refine callFn T 7 (mg_fn T.g Y _ 92 (by kernel_rfl)) ?_
      iterate 3 (first | walk1 | (dsimp only; walk1))
      refine ⟨F7.keep, ?_⟩
      have T7 := T.keeps F7.keep
      have Y7 := Y.keeps F7.keep
      have hg : g3 c = map3 c := by unfold g3; rw [if_neg hb]
      refine wpAny_mono (b3_call (d := d + 1) T7 Y7 (mg_fn T7.g Y7 _ 92 (by kernel_rfl)) (by omega)) (fun v s' hv => ?_) (fun _ _ x => x)
      obtain ⟨⟨h8, tk8, rfl, hk8⟩, tt, rfl⟩ := hv
      rw [← hg]
      have F8 := F7.keeps hk8
      have N8 := news_keep N7 hk8
      refine spliced_none ?_
      refine newList_N F8 N8 (fun h9 F9 N9 => ?_) (by show 2 ≤ sizeLine; decide)
      have hne9 : h3.objs.size ≠ h9.objs.size := Nat.ne_of_lt (Heap.lt_size (N9.get (.tail _ (.head _))))
      refine add_arrays F9 N9 (its := List.toArray ws) (its2 := List.toArray [Value.str (ch c) u, Value.str (g3 c) tt]) ⟨_, N9.get (.tail _ (.tail _ (.head _))), rfl, n, rfl⟩ ⟨_, N9.get (.head _), rfl, 0, rfl⟩ (fun h10 F10 N10 => ?_) (by
        have := strsAre_length hW
        have hl2 : (pairsOf (cs.take i)).length ≤ 2 * cs.length := by
          unfold pairsOf
          rw [List.length_flatMap]
          have : ((cs.take i).map fun a => [ch a, g3 a].length) = (cs.take i).map fun _ => 2 := rfl
          rw [this, List.map_const', List.sum_replicate_nat, List.length_take]
          omega
        rw [List.size_toArray, List.size_toArray, sizeLine_eq]
        simp only [List.length_cons, List.length_nil]
        omega)
      refine stN F10 N10 (fun h11 F11 N11 => ?_) (by kernel_rfl) (by kernel_rfl)
      refine wpAny_execs_nil ?_
      refine ⟨rfl, h11, _, _, [(h9.objs.size, { cls := .type "list", data := .seq (List.toArray (ws ++ [Value.str (ch c) u, Value.str (g3 c) tt])) 0 })], rfl, F11, ?_, ?_, ⟨fun y h1 h2 => ?_, h9.objs.size, ws ++ [Value.str (ch c) u, Value.str (g3 c) tt], 0, rfl, rfl, ?_⟩, ?_⟩
      · intro q hq
        simp only [List.mem_singleton] at hq
        subst hq
        exact N11 _ (.head _)
      · intro q hq hb
        simp only [List.mem_singleton] at hq hb
        subst hq
        exact hne9 hb.symm
      · show (if y = Str.ofString "pairs" then _ else _) = _
        rw [if_neg h2, if_neg h1, if_neg h2]
      · unfold pairsOf
        rw [take_snoc hc, List.flatMap_append]
        exact strsAre_append hW (.cons _ _ (.cons _ _ .nil))
      · intro b hb ob eb
        simp only [List.mem_cons, List.not_mem_nil, or_false] at hb
        rcases hb with rfl | rfl
        · have e1 : some oI = some ob := hoI.symm.trans eb
          injection e1 with e1
          subst e1
          exact (N11 _ (.tail _ (.tail _ (.head _)))).1
        · obtain ⟨ol, hol, _⟩ := hl
          have e1 : some ol = some ob := (F6.keep _ _ hol).symm.trans eb
          injection e1 with e1
          subst e1
          exact F11.keep _ _ hol
  · intro h' tk m' led' F' N' hJ
    obtain ⟨hm', p', ws, n, hp', rfl, hW⟩ := hJ
    have e : cs.take vs.length = cs := by rw [hlen, List.take_length]
    rw [e] at hW
    dsimp only
    refine wpAny_execs_cons ?_
    refine wpAny_Return_some ?_
    refine ld F' hp' ?_ (by kernel_rfl) (by kernel_rfl) (by decide)
    exact ⟨keeps_fr F', p', ws, rfl, N'.fresh (.head _), ⟨n, N'.get (.head _)⟩, hW⟩
end
end Mine
end
section
open PySem PySem.W PyProof.Rows PySem.Calls
set_option Elab.async false
set_option maxRecDepth 100000
set_option maxHeartbeats 4000000
namespace Mine
section
variable {prog : Program} {w : World} {A : Around} {s : Shared} {env : Env} {h₀ : Heap}
def WTurned (h₀ : Heap) (L : Addr) (n : Nat) (J : Nat → (Str → Option Value) → List (Addr × Obj) → Prop) (s : Shared) (f : Flow) (s₃ : Shared) : Prop :=
  f = .next ∧ ∃ k h' tk' m' led', k < n ∧ s₃ = { s with heap := h', toks := tk' } ∧ Fr h₀ L h' m' ∧ News h₀ L h' led' ∧ J k m' led'
theorem While_led {E : Value → Shared → Prop} {Q : Flow → Shared → Prop} {test : Expr} {body : List Stmt} {pos : Pos} {m : Str → Option Value} {led : List (Addr × Obj)} (F : Fr h₀ env.locals s.heap m) (N : News h₀ env.locals s.heap led)
    (J : Nat → (Str → Option Value) → List (Addr × Obj) → Prop) (n : Nat) (h0 : J n m led)
    (turn : ∀ n m h tk led, J n m led → Fr h₀ env.locals h m → News h₀ env.locals h led → wpAny (model prog w) A (PySem.isTrue test env (eval test env)) (fun b s₂ =>
      if b then wpAny (model prog w) A (execs body env) (WTurned h₀ env.locals n J s) E s₂ else Q .next s₂) E { s with heap := h, toks := tk })
    (hE : PassesOwn (model prog w) A env E := by passes_own) :
    wpAny (model prog w) A (exec (.While test body [] pos) env) Q E s := by
  refine wpAny_While ?_
  refine codeAny_whileLoop (fun n s' => ∃ h tk m' led', s' = { s with heap := h, toks := tk } ∧ Fr h₀ env.locals h m' ∧ News h₀ env.locals h led' ∧ J n m' led') ?_ n ⟨s.heap, s.toks, m, led, rfl, F, N, h0⟩
  rintro n s' ⟨h, tk, m', led', rfl, F', N', hJ⟩
  refine wpAny_mono (wpAny_passesOwn hE (turn n m' h tk led' hJ F' N')) (fun b s₂ h₂ => ?_) fun _ _ x => x
  cases b with
  | true =>
    simp only [if_true] at h₂ ⊢
    refine wpAny_mono (wpAny_passesOwn hE h₂) (fun f s₃ h₃ => ?_) fun _ _ x => x
    obtain ⟨rfl, k, h', tk', m'', led'', hk, rfl, F'', N'', hJ''⟩ := h₃
    exact ⟨k, hk, h', tk', m'', led'', rfl, F'', N'', hJ''⟩
  | false =>
    simp only [Bool.false_eq_true, if_false] at h₂ ⊢
    exact wpAny_execs_nil h₂
end

section
variable {w : World} {mg mb : Str → Option Value} {mean : ExcName → Option Value} {s : Shared} {a : Addr} {d : Nat} {fr : Option (List Env)} {gs : Option (List Code)} {un : Nat}
theorem bind_replace (pm cd doc v : Value) (vs : List Value) : bindArgs (docDef (fnName 1) (fnArgs 1) (fnBody 1) (fnScope 1) pm cd doc) ⟨v :: vs, []⟩ = (do let t ← newTuple vs; return [(Str.ofString "text", v), (Str.ofString "pairs", t)]) := by
  cases vs <;> kernel_rfl

def rep1 (x : Str) (c : Nat) (y : Str) : Str := Txt.join y (Txt.split x (ch c))
def repl (x : Str) (ps : List (Nat × Str)) : Str := ps.foldl (fun x p => rep1 x p.1 p.2) x
def NM (q : Addr) (y : Str) (t : Tok) : Str → Option Value := fun z => if z = Str.ofString "pairs" then some (.ref q) else if z = Str.ofString "text" then some (.str y t) else none
def flatP (ps : List (Nat × Str)) : List Str := ps.flatMap fun p => [ch p.1, p.2]

theorem replace_call {x : Str} {t : Tok} {vs : List Value} {ps : List (Nat × Str)} (T : Top Q (looseW Q LS) mean mg mb s.heap) (hm : mg (fnName 1) = some (.ref a)) (hd : d < 500) (hS : StrsAre vs (flatP ps)) (hn : ps.length ≤ 100000) (hT : ∀ p ∈ ps, p.2.length ≤ 10)
    (hB : ∀ k, (repl x (ps.take k)).length ≤ 1000000) :
   wpAny (model pw w) ⟨none, d, fr, gs, un⟩ (PySem.call (.ref a) (.str x t :: vs)) (StrEnd s (repl x ps)) (fun _ _ => False) s := by
  obtain ⟨o, pm, cd, doc, ho, hdt, hcd⟩ := fn_at T 1 hm
  refine wpAny_call ?_
  have hvl : vs.length ≤ 200000 := by
    rw [strsAre_length hS]
    unfold flatP
    rw [List.length_flatMap]
    have : (ps.map fun p => [ch p.1, p.2].length) = ps.map fun _ => 2 := rfl
    rw [this, List.map_const', List.sum_replicate_nat]
    omega
  refine codeAny_call_function (depth_ok (show d < 600 by omega)) ho hdt (by kernel_rfl) (by kernel_rfl) rfl hcd ?_
  rw [bind_replace]
  refine wpAny_bind ?_
  refine wpAny_newObj_type ?_ (by show (List.toArray vs).size ≤ sizeLine; rw [List.size_toArray, sizeLine_eq]; omega)
  refine wpAny_pure ?_
  have hcell : ∀ x ∈ (fnScope 1).names, x.2 ≠ .cell := by decide +kernel
  obtain ⟨s1, hs1⟩ : ∃ s1 : Shared, s1 = { s with heap := s.heap.push { cls := .type "tuple", data := .seq (List.toArray vs) } } := ⟨_, rfl⟩
  obtain ⟨p, hp⟩ : ∃ p, p = s.heap.objs.size := ⟨_, rfl⟩
  have hk1 : ∀ b o, s.heap.get? b = some o → s1.heap.get? b = some o := by rw [hs1]; exact fun b o e => Heap.get?_push_of_some _ e
  have hK1 : Keeps s s1 := ⟨s1.heap, s1.toks, by rw [hs1], hk1⟩
  have hp1 : IsTup s1.heap p (List.toArray vs) := by rw [hs1, hp]; exact ⟨_, Heap.get?_push_size _ rfl, rfl, 0, rfl⟩
  rw [← hs1, ← hp]
  have T1 := T.keeps hk1
  refine wpAny_newFunctionEnv hcell (locs (by kernel_rfl)) (fun h₁ hns hsb => ⟨T1.nolimit.fresh _ hsb, ?_⟩) (by kernel_rfl)
  show codeAny _ _ (.func (fnBody 1) (envOf (fnName 1) (fnScope 1) s1.heap.objs.size a cd)) _ _
  refine codeAny_func ?_
  have hkb : ∀ b o, s1.heap.get? b = some o → h₁.get? b = some o := fun b o e => hsb.extBut b o (Nat.ne_of_lt (Heap.lt_size e)) (Heap.get?_push_of_some _ e)
  have hsz : s1.heap.objs.size = s.heap.objs.size + 1 := by rw [hs1]; exact Heap.size_push ..
  obtain ⟨L, hL⟩ : ∃ L, L = s1.heap.objs.size := ⟨_, rfl⟩
  rw [← hL] at hns ⊢
  have hfresh : s.heap.get? p = none := by
    cases e : s.heap.get? p with
    | none => rfl
    | some o' => exact absurd (Heap.lt_size e) (by rw [hp]; exact Nat.lt_irrefl _)
  have hm0 : (fun y => List.lookup y [(Str.ofString "text", Value.str x t), (Str.ofString "pairs", Value.ref p)].reverse) = NM p x t := by
    funext y
    unfold NM
    show (match y == Str.ofString "pairs" with | true => _ | false => match y == Str.ofString "text" with | true => _ | false => _) = _
    by_cases h1 : y = Str.ofString "pairs"
    · subst h1; rw [if_pos rfl]; simp
    · rw [if_neg h1, show (y == Str.ofString "pairs") = false from by simpa using h1]
      by_cases h2 : y = Str.ofString "text"
      · subst h2; rw [if_pos rfl]; simp
      · rw [if_neg h2, show (y == Str.ofString "text") = false from by simpa using h2]; rfl
  have F : Fr s.heap L h₁ (NM p x t) := ⟨hm0 ▸ hns, fun b o e => hkb b o (hk1 b o e), by rw [hL, hsz]; exact Nat.le_succ _⟩
  have N : News s.heap L h₁ [(p, { cls := .type "tuple", data := .seq (List.toArray vs) })] := by
    intro q hq
    simp only [List.mem_singleton] at hq
    subst hq
    refine ⟨hkb _ _ ?_, by rw [hL, hsz, hp]; exact Nat.ne_of_lt (Nat.lt_succ_self _), hfresh⟩
    rw [hs1, hp]; exact Heap.get?_push_size _ rfl
  refine wpAny_mono (E := fun _ _ => False) ?_ (fun _ _ x => x) (fun _ _ x => x.elim)
  obtain ⟨s2, hs2⟩ : ∃ s2 : Shared, s2 = { s1 with heap := h₁, toks := s1.toks + 2 } := ⟨_, rfl⟩
  have hK2 : ∀ h' tk m, Fr s.heap L h' m → Keeps s { s2 with heap := h', toks := tk } := fun h' tk m F' => ⟨h', tk, by rw [hs2, hs1], F'.keep⟩
  show wpAny _ _ _ _ _ ({ s1 with heap := h₁, toks := s1.toks + 2 } : Shared)
  have F2 : Fr s.heap L s2.heap (NM p x t) := by rw [hs2]; exact F
  have N2 : News s.heap L s2.heap [(p, { cls := .type "tuple", data := .seq (List.toArray vs) })] := by rw [hs2]; exact N
  rw [← hs2]
  w_on
  w_top on
  with_unfolding_all refine wpAny_execs_cons ?_
  refine While_led (h₀ := s.heap) F2 N2 (fun n m led => ∃ y t' q ws k, m = NM q y t' ∧ led = [(q, { cls := .type "tuple", data := .seq (List.toArray ws) })] ∧ k + n = ps.length ∧ y = repl x (ps.take k) ∧ StrsAre ws (flatP (ps.drop k))) ps.length
    ⟨x, t, p, vs, 0, rfl, rfl, by omega, rfl, hS⟩ ?_
  rintro n m h tk led ⟨y, t', q, ws, k, rfl, rfl, hkn, hy, hW⟩ F3 N3
  have hq3 : IsTup h q (List.toArray ws) := ⟨_, N3.get (.head _), rfl, 0, rfl⟩
  iterate 2 (first | walk1 | (dsimp only; walk1))
  have hwl : ws.length ≤ 200000 := by
    rw [strsAre_length hW]
    unfold flatP
    rw [List.length_flatMap]
    have : ((ps.drop k).map fun p => [ch p.1, p.2].length) = (ps.drop k).map fun _ => 2 := rfl
    rw [this, List.map_const', List.sum_replicate_nat, List.length_drop]
    omega
  refine truthy_tuple hq3 (by rw [List.size_toArray]; omega) ?_
  cases hdr : ps.drop k with
  | nil =>
    rw [hdr] at hW
    cases hW
    have hkk : ps.take k = ps := by
      have := List.take_append_drop k ps
      rwa [hdr, List.append_nil] at this
    rw [hkk] at hy
    rw [if_neg (by simp)]
    dsimp only
    refine wpAny_execs_cons ?_
    iterate 2 (first | walk1 | (dsimp only; walk1))
    exact StrEnd.of (hK2 _ _ _ F3) hy
  | cons pc ps' =>
    obtain ⟨c, y2⟩ := pc
    rw [hdr] at hW
    have hW' : StrsAre ws (ch c :: y2 :: flatP ps') := hW
    cases hW' with
    | cons _ t1 hW1 =>
    cases hW1 with
    | cons _ t2 hW2 =>
    rename_i ws'
    rw [if_pos (by simp)]
    have hyl : y.length ≤ 1000000 := by rw [hy]; exact hB k
    refine wpAny_execs_cons ?_
    iterate 5 (first | walk1 | (dsimp only; walk1))
    have hidx : ∀ (j : Nat), j < 2 → seqIndex? (j : Int) (Value.str (ch c) t1 :: Value.str y2 t2 :: ws').length = some j := by
      intro j hj
      have e : (seqIndex? (j : Int) (ws'.length + 1 + 1)) = some j := by
        unfold seqIndex?
        have h1 : ¬ ((j : Int) < 0) := by omega
        have h2 : (decide (0 ≤ (j : Int)) && decide ((j : Int) < ((ws'.length + 1 + 1 : Nat) : Int))) = true := by
          rw [Bool.and_eq_true, decide_eq_true_eq, decide_eq_true_eq]; omega
        simp only [if_neg h1, h2, if_true, Int.toNat_natCast]
      exact e
    refine item_tupleT (l := Value.str (ch c) t1 :: Value.str y2 t2 :: ws') hq3 (by decide) (by decide) (hidx 1 (by decide)) rfl ?_
    iterate 8 (first | walk1 | (dsimp only; walk1))
    iterate 3 (first | walk1 | (dsimp only; walk1))
    refine item_tupleT (l := Value.str (ch c) t1 :: Value.str y2 t2 :: ws') hq3 (by decide) (by decide) (hidx 0 (by decide)) rfl ?_
    iterate 1 (first | walk1 | (dsimp only; walk1))
    refine splitN1A (s := { s2 with heap := h, toks := _ }) F3 N3 (by rfl) (fun l h4 k4 el hsA _ hl4 F4 N4 => ?_) (by rw [sizeLine_eq]; omega)
    refine spliced_none ?_
    have hmem : (c, y2) ∈ ps := List.mem_of_mem_drop (show (c, y2) ∈ ps.drop k by rw [hdr]; exact .head _)
    have hy2 : y2.length ≤ 10 := hT _ hmem
    have hwt := split_weight y (ch c) (Nat.le_refl 1)
    rw [← el] at hwt
    refine join_list hl4 hsA (by
      have : (l.map (·.1)).length * y2.length ≤ (l.map (·.1)).length * 10 := Nat.mul_le_mul_left _ hy2
      omega) (fun t5 k5 => ?_)
    have hnew : Txt.join y2 (l.map (·.1)) = repl x (ps.take (k + 1)) := by
      have e1 : ps[k]? = some (c, y2) := by
        have := congrArg (fun l => l[0]?) hdr
        simpa [List.getElem?_drop] using this
      rw [take_snoc e1]
      unfold repl
      rw [List.foldl_append]
      show _ = rep1 (repl x (ps.take k)) c y2
      rw [← hy, el]
      rfl
    rw [hnew]
    refine stN F4 N4 (fun h6 F6 N6 => ?_) (by kernel_rfl) (by kernel_rfl)
    refine wpAny_execs_cons ?_
    iterate 5 (first | walk1 | (dsimp only; walk1))
    iterate 3 (first | walk1 | (dsimp only; walk1))
    have hq6 : IsTup h6 q (List.toArray (Value.str (ch c) t1 :: Value.str y2 t2 :: ws')) := ⟨_, N6.get (.tail _ (.head _)), rfl, 0, rfl⟩
    refine slice_tuple_from (s := { s2 with heap := h6, toks := _ }) (a := 2) F6 N6 hq6 (by decide) (by simp) (fun h7 F7 N7 => ?_) (hsz := by
      rw [List.size_toArray, sizeLine_eq]; omega)
    refine stN F7 N7 (fun h8 F8 N8 => ?_) (by kernel_rfl) (by kernel_rfl)
    dsimp only
    refine wpAny_execs_nil ?_
    have hkl : k < ps.length := by
      have := congrArg List.length hdr
      rw [List.length_drop, List.length_cons] at this
      omega
    refine ⟨rfl, n - 1, h8, _, _, [(h6.objs.size + 1, { cls := .type "tuple", data := .seq (List.toArray ws') })], by omega, rfl, F8, ?_, ⟨repl x (ps.take (k + 1)), t5, h6.objs.size + 1, ws', k + 1, ?_, rfl, by omega, rfl, ?_⟩⟩
    · intro q' hq'
      simp only [List.mem_singleton] at hq'
      subst hq'
      exact N8 _ (.head _)
    · funext z
      unfold NM
      by_cases h1 : z = Str.ofString "pairs"
      · rw [if_pos h1, if_pos h1]
      · rw [if_neg h1, if_neg h1]
        by_cases h2 : z = Str.ofString "text"
        · rw [if_pos h2, if_neg h1, if_pos h2]
        · rw [if_neg h2, if_neg h1, if_neg h2, if_neg h2]
    · have e1 : ps.drop (k + 1) = ps' := by rw [← List.drop_drop, hdr]; rfl
      rw [e1]
      exact hW2
end
end Mine
end
section
open PySem PySem.W PyProof.Rows PySem.Calls
set_option Elab.async false
set_option maxRecDepth 100000
set_option maxHeartbeats 4000000
namespace Mine
theorem news_add {h₀ h h' : Heap} {L l : Addr} {m : Str → Option Value} {news : List (Addr × Obj)} {its : Array Value} {n : Nat} (F : Fr h₀ L h m) (N : News h₀ L h' news) (hl : h.get? l = none) (hp : h'.get? l = some { cls := .type "list", data := .seq its n }) :
    News h₀ L h' ((l, { cls := .type "list", data := .seq its n }) :: news) := by
  intro q hq
  rcases List.mem_cons.mp hq with rfl | hq
  · refine ⟨hp, ?_, ?_⟩
    · obtain ⟨oL, es, ep, hL, _⟩ := F.ns
      rintro rfl
      exact absurd (hl.symm.trans hL) (by simp)
    · cases e : h₀.get? l with
      | none => rfl
      | some o => exact absurd (hl.symm.trans (F.keep _ _ e)) (by simp)
  · exact N q hq
def foldPs (cs : List Nat) : List (Nat × Str) := cs.map fun c => (c, g3 c)
def doneT (x : Str) (k z : Int) : Str := if 8 ≤ k then cramT x (if k = 31 then z else k - 10) else repl x (foldPs (if k.fmod 2 = 1 then (dist x.cps.toList).reverse else dist x.cps.toList))
theorem length_pairsOf (cs : List Nat) : (pairsOf cs).length = 2 * cs.length := by
  unfold pairsOf
  rw [List.length_flatMap]
  have : (cs.map fun a => [ch a, g3 a].length) = cs.map fun _ => 2 := rfl
  rw [this, List.map_const', List.sum_replicate_nat]
  omega
theorem length_foldPs (cs : List Nat) : (foldPs cs).length = cs.length := List.length_map ..
theorem flatP_foldPs (cs : List Nat) : flatP (foldPs cs) = pairsOf cs := by
  unfold flatP foldPs pairsOf
  rw [List.flatMap_map]
theorem strsAre_reverse : ∀ {vs : List Value} {xs : List Str}, StrsAre vs xs → StrsAre vs.reverse xs.reverse
  | _, _, .nil => .nil
  | _, _, .cons y t h => by
    rw [List.reverse_cons, List.reverse_cons]
    exact strsAre_append (strsAre_reverse h) (.cons y t .nil)

section
variable {w : World} {mg mb : Str → Option Value} {mean : ExcName → Option Value} {s : Shared} {a : Addr} {d : Nat} {fr : Option (List Env)} {gs : Option (List Code)} {un : Nat}
theorem done_call {l : Addr} {x : Str} {k z : Int} {t u t0 : Tok} (T : Top Q (looseW Q LS) mean mg mb s.heap) (Y : YP w s.heap) (hm : mg (fnName 15) = some (.ref a)) (hd : d < 350) (hl : s.heap.IsList l #[.int k t, .int z u]) (hx : x.length ≤ 10000)
    (hB : ∀ cs, (cs = dist x.cps.toList ∨ cs = (dist x.cps.toList).reverse) → ∀ k, (repl x ((foldPs cs).take k)).length ≤ 1000000) (hG : ∀ c ∈ dist x.cps.toList, (g3 c).length ≤ 10) (hD : (dist x.cps.toList).length ≤ 10000) :
   wpAny (model pw w) ⟨none, d, fr, gs, un⟩ (PySem.call (.ref a) [.str x t0, .ref l]) (StrEnd s (doneT x k z)) (fun _ _ => False) s := by
  obtain ⟨o, pm, cd, doc, ho, hdt, hcd⟩ := fn_at T 15 hm
  refine wpAny_call ?_
  refine call_plain_ret (binds := [("text", .str x t0), ("step", .ref l)]) (depth_ok (show d < 600 by omega)) ho hdt T.nolimit hcd (by kernel_rfl) (locs (by kernel_rfl)) ?_ (by kernel_rfl) (by kernel_rfl) (by kernel_rfl) (by decide +kernel)
  intro h₁ F
  have N : News s.heap s.heap.objs.size h₁ [] := News.nil
  have hl₁ := F.lst hl
  w_on
  w_top on
  with_unfolding_all refine wpAny_execs_cons ?_
  iterate 10 (first | walk1 | (dsimp only; walk1))
  · rename 8 ≤ k => hk
    refine wpAny_execs_cons ?_
    iterate 2 (first | walk1 | (dsimp only; walk1))
    refine ld_loose T F (mg_fn T.g Y _ 28 (by kernel_rfl)) ?_ (by kernel_rfl) (by kernel_rfl) (by decide)
    refine callFn T 2 (mg_fn T.g Y _ 28 (by kernel_rfl)) ?_
    iterate 3 (first | walk1 | (dsimp only; walk1))
    walk1
    refine ld_loose T F (mg_fn T.g Y _ 128 (by kernel_rfl)) ?_ (by kernel_rfl) (by kernel_rfl) (by decide)
    refine callFn T 14 (mg_fn T.g Y _ 128 (by kernel_rfl)) ?_
    iterate 3 (first | walk1 | (dsimp only; walk1))
    refine ⟨F.keep, ?_⟩
    have T1 := T.keeps F.keep
    have Y1 := Y.keeps F.keep
    refine wpAny_mono (width_call (d := d + 1) T1 (mg_fn T1.g Y1 _ 128 (by kernel_rfl)) (by omega) hl₁) (fun v s' hv => ?_) (fun _ _ x => x)
    obtain ⟨⟨h2, tk2, rfl, hk2⟩, tt, rfl⟩ := hv
    have F2 := F.keeps hk2
    refine spliced_none ⟨F2.keep, ?_⟩
    have T2 := T.keeps F2.keep
    have Y2 := Y.keeps F2.keep
    refine wpAny_mono (cram_call (d := d + 1) T2 (mg_fn T2.g Y2 _ 28 (by kernel_rfl)) (by omega) (by omega)) (fun v s' hv => ?_) (fun _ _ x => x)
    obtain ⟨⟨h3, tk3, rfl, hk3⟩, tt, rfl⟩ := hv
    exact StrEnd.of (keeps_fr (F2.keeps hk3)) (by unfold doneT; exact (if_pos (show 8 ≤ k from hk)).symm)
  · rename ¬ (8 ≤ k) => hk
    refine wpAny_execs_nil ?_
    dsimp only
    refine wpAny_execs_cons ?_
    iterate 2 (first | walk1 | (dsimp only; walk1))
    refine ld_loose T F (mg_fn T.g Y _ 114 (by kernel_rfl)) ?_ (by kernel_rfl) (by kernel_rfl) (by decide)
    refine callFn T 12 (mg_fn T.g Y _ 114 (by kernel_rfl)) ?_
    iterate 3 (first | walk1 | (dsimp only; walk1))
    refine ⟨F.keep, ?_⟩
    have T1 := T.keeps F.keep
    have Y1 := Y.keeps F.keep
    refine wpAny_mono (distinct_call (d := d + 1) T1 (mg_fn T1.g Y1 _ 114 (by kernel_rfl)) (by omega) (by omega)) (fun v s' hv => ?_) (fun _ _ x => x)
    obtain ⟨⟨h2, tk2, rfl, hk2⟩, l2, vs2, rfl, hn2, ⟨n2, hp2⟩, hS2⟩ := hv
    have F2 := F.keeps hk2
    have N2 := news_add F (news_keep N hk2) hn2 hp2
    refine stN F2 N2 (fun h3 F3 N3 => ?_) (by kernel_rfl) (by kernel_rfl)
    dsimp only
    refine wpAny_execs_cons ?_
    refine wpAny_mono (Q := fun f s' => f = .next ∧ ∃ h' tk' m' l' vs' n' cs news', s' = { s with heap := h', toks := tk' } ∧ Fr s.heap s.heap.objs.size h' m' ∧ News s.heap s.heap.objs.size h' ((l', { cls := .type "list", data := .seq (List.toArray vs') n' }) :: news') ∧ m' (Str.ofString "signs") = some (.ref l') ∧
      m' (Str.ofString "text") = some (.str x t0) ∧ StrsAre vs' (cs.map ch) ∧ cs = if k.fmod 2 = 1 then (dist x.cps.toList).reverse else dist x.cps.toList) (E := fun _ _ => False) ?_ ?_ (fun _ _ x => x)
    · iterate 13 (first | walk1 | (dsimp only; walk1))
      · rename_i hk5
        refine wpAny_execs_cons ?_
        iterate 8 (first | walk1 | (dsimp only; walk1))
        iterate 2 (first | walk1 | (dsimp only; walk1))
        refine slice_list3 (s := { s with heap := h3, toks := _ }) (lo := none) (hi := none) (st := some (-1)) (ops := _) F3 N3 ⟨_, N3.get (.head _), rfl, n2, rfl⟩ .none .none (.int _ _) (by decide) (fun h4 F4 N4 => ?_) (hsz := by
          rw [List.size_toArray, strsAre_length hS2, List.length_map, sizeLine_eq]; omega)
        refine stN F4 N4 (fun h5 F5 N5 => ?_) (by kernel_rfl) (by kernel_rfl)
        dsimp only
        rw [krv_pick] at N5
        refine wpAny_execs_nil ⟨rfl, h5, _, _, _, vs2.reverse, 0, (dist x.cps.toList).reverse, _, rfl, F5, N5, rfl, rfl, ?_, (if_pos hk5).symm⟩
        rw [List.map_reverse]
        exact strsAre_reverse hS2
      · rename_i hk5
        refine wpAny_execs_nil ⟨rfl, h3, _, _, l2, vs2, n2, dist x.cps.toList, [], rfl, F3, N3, rfl, rfl, hS2, (if_neg hk5).symm⟩
    · rintro f s' ⟨rfl, h', tk', m', l', vs', n', cs, news', rfl, F', N', hm1, hm2, hS', hcs⟩
      have hcl : cs.length ≤ 10000 := by rw [hcs]; split <;> simpa using hD
      have hcm : ∀ c ∈ cs, c ∈ dist x.cps.toList := by rw [hcs]; split <;> simp
      dsimp only
      refine wpAny_execs_cons ?_
      iterate 2 (first | walk1 | (dsimp only; walk1))
      refine ld_loose T F' (mg_fn T.g Y _ 21 (by kernel_rfl)) ?_ (by kernel_rfl) (by kernel_rfl) (by decide)
      refine callFn T 1 (mg_fn T.g Y _ 21 (by kernel_rfl)) ?_
      refine spliced_more ?_
      refine ld F' hm2 ?_ (by kernel_rfl) (by kernel_rfl) (by decide)
      refine items_star ?_
      walk1
      refine ld_loose T F' (mg_fn T.g Y _ 121 (by kernel_rfl)) ?_ (by kernel_rfl) (by kernel_rfl) (by decide)
      refine callFn T 13 (mg_fn T.g Y _ 121 (by kernel_rfl)) ?_
      refine spliced_more ?_
      refine ld F' hm1 ?_ (by kernel_rfl) (by kernel_rfl) (by decide)
      refine spliced_none ⟨F'.keep, ?_⟩
      have T5 := T.keeps F'.keep
      have Y5 := Y.keeps F'.keep
      refine wpAny_mono (pairs_call (d := d + 1) T5 Y5 (mg_fn T5.g Y5 _ 121 (by kernel_rfl)) (by omega) ⟨_, N'.get (.head _), rfl, n', rfl⟩ hS' (by omega)) (fun v s' hv => ?_) (fun _ _ x => x)
      obtain ⟨⟨h6, tk6, rfl, hk6⟩, l6, vs6, rfl, hn6, ⟨n6, hp6⟩, hS6⟩ := hv
      have F6 := F'.keeps hk6
      have N6 := news_add F' (news_keep N' hk6) hn6 hp6
      refine star_seq F6 N6 (.head _) rfl rfl (.inl rfl) rfl (by rw [List.size_toArray, strsAre_length hS6, length_pairsOf, sizeLine_eq]; omega) (fun h7 F7 N7 => ?_)
      refine spliced_none ⟨F7.keep, ?_⟩
      have T7 := T.keeps F7.keep
      have Y7 := Y.keeps F7.keep
      rw [List.append_nil]
      refine wpAny_mono (replace_call (d := d + 1) (ps := foldPs cs) T7 (mg_fn T7.g Y7 _ 21 (by kernel_rfl)) (by omega) (by rw [flatP_foldPs]; exact hS6) (by rw [length_foldPs]; omega) (by
        intro p hp
        obtain ⟨c, hc, rfl⟩ := List.mem_map.mp hp
        exact hG c (hcm c hc)) (hB cs (by rw [hcs]; split <;> simp))) (fun v s' hv => ?_) (fun _ _ x => x)
      obtain ⟨⟨h8, tk8, rfl, hk8⟩, tt, rfl⟩ := hv
      exact StrEnd.of (keeps_fr (F7.keeps hk8)) (by unfold doneT; rw [hcs]; exact (if_neg (show ¬ (8 ≤ k) from hk)).symm)
end
end Mine
end
section
open PySem PySem.W PyProof.Rows PySem.Calls
set_option Elab.async false
set_option maxRecDepth 100000
set_option maxHeartbeats 4000000
namespace Mine
def FitEnd (s : Shared) (l : Addr) (vs : List Value) (ys : List Str) (v : Value) (s' : Shared) : Prop := Keeps s s' ∧ ∃ l' vs', v = .ref l' ∧ StrsAre vs' ys ∧ ((l' = l ∧ vs' = vs) ∨ (s.heap.get? l' = none ∧ s'.heap.PlainList l' (List.toArray vs')))
def fitC (cs : List Nat) (n : Int) : List Nat := if (cs.length : Int) ≤ n then cs else cs.take ((n - 3).toNat / 2) ++ [46, 46, 46] ++ cs.drop (cs.length - ((n - 3).toNat + 1) / 2)
section
variable {prog : Program} {M : Model} {w : World} {A : Around} {E : Value → Shared → Prop} {s : Shared} {h₀ : Heap} {L : Addr} {m : Str → Option Value} {news : List (Addr × Obj)}
theorem newList_G {vs : List Value} {Q : Value → Shared → Prop} (F : Fr h₀ L s.heap m) (N : News h₀ L s.heap news)
    (h : ∀ D h', Fr h₀ L h' m → News h₀ L h' ((D, { cls := .type "list", data := .seq vs.toArray }) :: news) → s.heap.get? D = none → (∀ b o, s.heap.get? b = some o → h'.get? b = some o) → Q (.ref D) { s with heap := h' }) (hsz : vs.length ≤ 100000) : wpAny M A (newList vs) Q E s :=
  newList_NK F N (fun h' F' N' hk => h _ h' F' N' (by
    cases e : s.heap.get? s.heap.objs.size with
    | none => rfl
    | some o => exact absurd (Heap.lt_size e) (Nat.lt_irrefl _)) hk) (by rw [sizeLine_eq]; omega)
theorem len_listG {l : Addr} {items : Array Value} {k : Nat} {Q : Value → Shared → Prop} (hl : s.heap.IsList l items) (e : items.size = k) (hfit : k ≤ 3000000)
    (h : Q (.int k (s.toks + 1)) { s with toks := s.toks + 1 + 1 }) : wpAny (model prog w) A (call (.builtin "len") [.ref l]) Q E s := by
  subst e
  exact len_list hl (by omega) h
theorem item_list_neg {value slice : Expr} {l : Addr} {vs : List Value} {k : Int} {u : Tok} {x : Value} {Q : Value → Shared → Prop} (hl : s.heap.IsList l vs.toArray)
    (h0 : k < 0) (h1 : -(vs.length : Int) ≤ k) (hfit : -(2 ^ 63) ≤ k) (hx : vs[(k + vs.length).toNat]? = some x) (h : Q x s)
    (hs : subscripted slice false (.ref l) (.int k u) = operate [.ref l, .int k u] (getItem (.ref l) (.int k u)) := by with_unfolding_all rfl) (hg : ∀ r, letTemporaryGo value (.ref l) r = pure () := by intro _; with_unfolding_all rfl) :
    wpAny (model prog w) A (subscriptTail value slice (.ref l) (.int k u)) Q E s := by
  have hsz : vs.toArray.size = vs.length := by simp
  exact subscriptTail_builtin hl.typeIs slot_list_getitem.lookup (wpAny_getItem_list_neg hl h0 (by rw [hsz]; exact h1) hfit (by rw [hsz]; simpa using hx) h) hs hg
theorem add_lists_G {l b : Addr} {vs ws : List Value} {Q : Value → Shared → Prop} (F : Fr h₀ L s.heap m) (N : News h₀ L s.heap news) (hl : s.heap.IsList l vs.toArray) (hb : s.heap.IsList b ws.toArray)
    (h : ∀ D h', Fr h₀ L h' m → News h₀ L h' ((D, { cls := .type "list", data := .seq (vs ++ ws).toArray }) :: news) → Q (.ref D) { s with heap := h' })
    (hsz : vs.length + ws.length ≤ 3000000) :
    wpAny (model prog w) A (binaryOp .Add (.ref l) (.ref b)) Q E s :=
  add_lists (vs := vs) (ws := ws) (hsz := by rw [sizeLine_eq]; omega) F N hl hb (h _)
end
theorem strsAre_take : ∀ {vs : List Value} {xs : List Str}, StrsAre vs xs → ∀ k, StrsAre (vs.take k) (xs.take k)
  | _, _, .nil, k => by simp only [List.take_nil]; exact .nil
  | _, _, .cons y t h, 0 => .nil
  | _, _, .cons y t h, k + 1 => .cons y t (strsAre_take h k)
def FM (l : Addr) (n : Int) (u : Tok) (pH pT : Addr) : Str → Option Value := fun y => if y = Str.ofString "tail" then some (.ref pT) else if y = Str.ofString "head" then some (.ref pH) else List.lookup y [(Str.ofString "signs", Value.ref l), (Str.ofString "width", .int n u)].reverse
theorem FM_head (l : Addr) (n : Int) (u : Tok) (pH pT p : Addr) : (fun y => if y = Str.ofString "head" then some (.ref p) else FM l n u pH pT y) = FM l n u p pT := by
  funext y
  unfold FM
  by_cases h1 : y = Str.ofString "head"
  · subst h1; rw [if_pos rfl, if_neg (by decide), if_pos rfl]
  · rw [if_neg h1, if_neg h1, if_neg h1]
theorem FM_tail (l : Addr) (n : Int) (u : Tok) (pH pT p : Addr) : (fun y => if y = Str.ofString "tail" then some (.ref p) else FM l n u pH pT y) = FM l n u pH p := by
  funext y
  unfold FM
  by_cases h1 : y = Str.ofString "tail"
  · rw [if_pos h1, if_pos h1]
  · rw [if_neg h1, if_neg h1, if_neg h1]
def JFit (l : Addr) (u : Tok) (vs : List Value) (n : Int) (i : Nat) (m : Str → Option Value) (led : List (Addr × Obj)) : Prop :=
  ∃ pH pT nH nT, m = FM l n u pH pT ∧
    led = [(pH, { cls := .type "list", data := .seq (vs.take (i / 2)).toArray nH }), (pT, { cls := .type "list", data := .seq (vs.drop (vs.length - (i + 1) / 2)).toArray nT })] ∧ i ≤ (n - 3).toNat
section
variable {w : World} {mg mb : Str → Option Value} {mean : ExcName → Option Value} {s : Shared} {a : Addr} {d : Nat} {fr : Option (List Env)} {gs : Option (List Code)} {un : Nat}
theorem fit_call {l : Addr} {vs : List Value} {cs : List Nat} {n : Int} {u : Tok} (T : Top Q (looseW Q LS) mean mg mb s.heap) (hm : mg (fnName 16) = some (.ref a)) (hd : d < 500) (hl : s.heap.IsList l (List.toArray vs)) (hS : StrsAre vs (cs.map ch)) (hn : cs.length ≤ 1000000) :
   wpAny (model pw w) ⟨none, d, fr, gs, un⟩ (PySem.call (.ref a) [.ref l, .int n u]) (FitEnd s l vs ((fitC cs n).map ch)) (fun _ _ => False) s := by
  obtain ⟨o, pm, cd, doc, ho, hdt, hcd⟩ := fn_at T 16 hm
  refine wpAny_call ?_
  refine call_plain_ret (binds := [("signs", .ref l), ("width", .int n u)]) (depth_ok (show d < 600 by omega)) ho hdt T.nolimit hcd (by kernel_rfl) (locs (by kernel_rfl)) ?_ (by kernel_rfl) (by kernel_rfl) (by kernel_rfl) (by decide +kernel)
  intro h₁ F
  have N : News s.heap s.heap.objs.size h₁ [] := News.nil
  have hl₁ := F.lst hl
  have hlen : vs.length = cs.length := by rw [strsAre_length hS, List.length_map]
  w_on
  w_top on
  with_unfolding_all refine wpAny_execs_cons ?_
  iterate 8 ((try dsimp only); walk1)
  refine len_list hl₁ (by rw [List.size_toArray]; omega) ?_
  iterate 4 ((try dsimp only); walk1)
  · rename_i hle
    refine wpAny_execs_cons ?_
    iterate 2 ((try dsimp only); walk1)
    exact ⟨keeps_fr F, l, vs, rfl, by rw [show fitC cs n = cs from if_pos (by rw [← hlen]; exact hle)]; exact hS, .inl ⟨rfl, rfl⟩⟩
  · rename_i hle
    refine wpAny_execs_nil ?_
    dsimp only
    refine wpAny_execs_cons ?_
    iterate 3 ((try dsimp only); walk1)
    refine newList_G F N (fun pH h2 F2 N2 _ _ => ?_) (by decide)
    refine stN F2 N2 (fun h3 F3 N3 => ?_) (by kernel_rfl) (by kernel_rfl)
    dsimp only
    refine wpAny_execs_cons ?_
    iterate 3 ((try dsimp only); walk1)
    refine newList_G F3 N3 (fun pT h4 F4 N4 _ _ => ?_) (by decide)
    refine stN F4 N4 (fun h5 F5 N5 => ?_) (by kernel_rfl) (by kernel_rfl)
    dsimp only
    rw [List.size_toArray] at hle
    have hF5 : Fr s.heap s.heap.objs.size h5 (FM l n u pH pT) := F5
    have hN5 : News s.heap s.heap.objs.size h5 [(pH, { cls := .type "list", data := .seq (vs.take (0 / 2)).toArray }), (pT, { cls := .type "list", data := .seq (vs.drop (vs.length - (0 + 1) / 2)).toArray })] := by
      have e : vs.drop (vs.length - (0 + 1) / 2) = [] := by rw [List.drop_eq_nil_iff]; omega
      rw [e]
      intro q hq
      simp only [List.mem_cons, List.not_mem_nil, or_false] at hq
      rcases hq with rfl | rfl
      · exact N5 _ (.tail _ (.head _))
      · exact N5 _ (.head _)
    clear F5 N5 F2 N2 F3 N3 F4 N4
    refine wpAny_execs_cons ?_
    refine While_led (h₀ := s.heap) hF5 hN5 (fun k m led => ∃ i, k + i = (n - 3).toNat ∧ JFit l u vs n i m led) (n - 3).toNat ⟨0, by omega, pH, pT, 0, 0, rfl, rfl, by omega⟩ ?_
    rintro k m h tk led ⟨i, hki, pH, pT, nH, nT, rfl, rfl, hi⟩ F6 N6
    have hlH : h.IsList pH (vs.take (i / 2)).toArray := ⟨_, N6.get (.head _), rfl, _, rfl⟩
    have hlT : h.IsList pT (vs.drop (vs.length - (i + 1) / 2)).toArray := ⟨_, N6.get (.tail _ (.head _)), rfl, _, rfl⟩
    have hlS : h.IsList l vs.toArray := F6.lst hl
    have eH : (vs.take (i / 2)).toArray.size = i / 2 := by rw [List.size_toArray, List.length_take]; omega
    have eT : (vs.drop (vs.length - (i + 1) / 2)).toArray.size = (i + 1) / 2 := by rw [List.size_toArray, List.length_drop]; omega
    iterate 8 ((try dsimp only); walk1)
    walk1
    refine len_listG hlH eH (by omega) ?_
    iterate 6 ((try dsimp only); walk1)
    refine len_listG hlT eT (by omega) ?_
    iterate 7 ((try dsimp only); walk1)
    · rename_i hlt
      refine wpAny_execs_cons ?_
      iterate 8 ((try dsimp only); walk1)
      refine len_listG hlH eH (by omega) ?_
      iterate 6 ((try dsimp only); walk1)
      refine len_listG hlT eT (by omega) ?_
      iterate 3 ((try dsimp only); walk1)
      · rename_i heq
        have hev : i / 2 = (i + 1) / 2 := by omega
        refine wpAny_execs_cons ?_
        iterate 16 ((try dsimp only); walk1)
        refine len_listG hlT eT (by omega) ?_
        iterate 1 ((try dsimp only); walk1)
        obtain ⟨v, hv⟩ : ∃ v, vs[vs.length - 1 - (i + 1) / 2]? = some v := ⟨_, List.getElem?_eq_getElem (by omega)⟩
        refine item_list_neg hlS (by omega) (by omega) (by omega) (by rw [← hv]; congr 1; omega) ?_
        refine spliced_none ?_
        refine newList_G F6 N6 (fun D h7 F7 N7 _ _ => ?_) (by simp)
        iterate 1 ((try dsimp only); walk1)
        refine add_lists_G F7 N7 (vs := [v]) (ws := vs.drop (vs.length - (i + 1) / 2)) ⟨_, N7.get (.head _), rfl, _, rfl⟩ ⟨_, N7.get (.tail _ (.tail _ (.head _))), rfl, _, rfl⟩ (fun D2 h8 F8 N8 => ?_) (by rw [List.length_drop]; simp only [List.length_cons, List.length_nil]; omega)
        refine stN F8 N8 (fun h9 F9 N9 => ?_) (by kernel_rfl) (by kernel_rfl)
        try dsimp only
        refine wpAny_execs_nil ?_
        try dsimp only
        refine wpAny_execs_nil ?_
        rw [FM_tail] at F9
        refine ⟨rfl, k - 1, h9, _, _, [(pH, { cls := .type "list", data := .seq (vs.take ((i + 1) / 2)).toArray nH }), (D2, { cls := .type "list", data := .seq (vs.drop (vs.length - (i + 1 + 1) / 2)).toArray })], by omega, rfl, F9, ?_, i + 1, by omega, pH, D2, nH, 0, rfl, rfl, by omega⟩
        have e1 : vs.drop (vs.length - (i + 1 + 1) / 2) = [v] ++ vs.drop (vs.length - (i + 1) / 2) := by
          obtain ⟨hlt', hv'⟩ := List.getElem?_eq_some_iff.mp hv
          have e2 : vs.length - (i + 1 + 1) / 2 = vs.length - 1 - (i + 1) / 2 := by omega
          rw [e2, List.drop_eq_getElem_cons hlt', hv']
          show v :: vs.drop _ = v :: vs.drop _
          congr 2
          omega
        rw [e1]
        have e3 : vs.take ((i + 1) / 2) = vs.take (i / 2) := by rw [hev]
        rw [e3]
        intro q hq
        simp only [List.mem_cons, List.not_mem_nil, or_false] at hq
        rcases hq with rfl | rfl
        · exact N9 _ (.tail _ (.tail _ (.head _)))
        · exact N9 _ (.head _)
      · rename_i heq
        have hev : (i + 1) / 2 = i / 2 + 1 := by omega
        refine wpAny_execs_cons ?_
        iterate 13 ((try dsimp only); walk1)
        refine len_listG hlH eH (by omega) ?_
        obtain ⟨v, hv⟩ : ∃ v, vs[i / 2]? = some v := ⟨_, List.getElem?_eq_getElem (by omega)⟩
        refine item_list hlS (by omega) (by omega) (by rw [List.getElem?_toArray, Int.toNat_natCast]; exact hv) ?_
        refine spliced_none ?_
        refine newList_G F6 N6 (fun D h7 F7 N7 _ _ => ?_) (by simp)
        refine add_lists_G F7 N7 (vs := vs.take (i / 2)) (ws := [v]) ⟨_, N7.get (.tail _ (.head _)), rfl, _, rfl⟩ ⟨_, N7.get (.head _), rfl, _, rfl⟩ (fun D2 h8 F8 N8 => ?_) (by rw [List.length_take]; simp only [List.length_cons, List.length_nil]; omega)
        refine stN F8 N8 (fun h9 F9 N9 => ?_) (by kernel_rfl) (by kernel_rfl)
        try dsimp only
        refine wpAny_execs_nil ?_
        try dsimp only
        refine wpAny_execs_nil ?_
        rw [FM_head] at F9
        refine ⟨rfl, k - 1, h9, _, _, [(D2, { cls := .type "list", data := .seq (vs.take ((i + 1) / 2)).toArray }), (pT, { cls := .type "list", data := .seq (vs.drop (vs.length - (i + 1 + 1) / 2)).toArray nT })], by omega, rfl, F9, ?_, i + 1, by omega, D2, pT, 0, nT, rfl, rfl, by omega⟩
        have e1 : vs.drop (vs.length - (i + 1 + 1) / 2) = vs.drop (vs.length - (i + 1) / 2) := by
          congr 1
          omega
        rw [e1]
        have e3 : vs.take ((i + 1) / 2) = vs.take (i / 2) ++ [v] := by rw [hev, take_snoc hv]
        rw [e3]
        intro q hq
        simp only [List.mem_cons, List.not_mem_nil, or_false] at hq
        rcases hq with rfl | rfl
        · exact N9 _ (.head _)
        · exact N9 _ (.tail _ (.tail _ (.tail _ (.head _))))
    · rename_i hlt
      have hin : i = (n - 3).toNat := by omega
      try dsimp only
      refine wpAny_execs_cons ?_
      iterate 11 ((try dsimp only); walk1)
      refine spliced_none ?_
      refine newList_G F6 N6 (fun D h7 F7 N7 _ _ => ?_) (by simp)
      refine add_lists_G F7 N7 (vs := vs.take (i / 2)) (ws := [_, _, _]) ⟨_, N7.get (.tail _ (.head _)), rfl, _, rfl⟩ ⟨_, N7.get (.head _), rfl, _, rfl⟩ (fun D2 h8 F8 N8 => ?_) (by rw [List.length_take]; simp only [List.length_cons, List.length_nil]; omega)
      iterate 1 ((try dsimp only); walk1)
      refine add_lists_G F8 N8 (vs := vs.take (i / 2) ++ [_, _, _]) (ws := vs.drop (vs.length - (i + 1) / 2)) ⟨_, N8.get (.head _), rfl, _, rfl⟩ ⟨_, N8.get (.tail _ (.tail _ (.tail _ (.head _)))), rfl, _, rfl⟩ (fun D3 h9 F9 N9 => ?_) (by rw [List.length_append, List.length_take, List.length_drop]; simp only [List.length_cons, List.length_nil]; omega)
      refine ⟨keeps_fr F9, D3, _, rfl, ?_, .inr ⟨N9.fresh (.head _), ⟨_, N9.get (.head _)⟩⟩⟩
      rw [show fitC cs n = cs.take ((n - 3).toNat / 2) ++ [46, 46, 46] ++ cs.drop (cs.length - ((n - 3).toNat + 1) / 2) from if_neg (by rw [← hlen]; exact hle), ← hin, List.map_append, List.map_append, List.map_take, List.map_drop, ← hlen]
      exact strsAre_append (strsAre_append (strsAre_take hS _) (.cons _ _ (.cons _ _ (.cons _ _ .nil)))) (StrsAre.drop' hS _)
end
end Mine
end
section
open PySem PySem.W PyProof.Rows PySem.Calls
set_option Elab.async false
set_option maxRecDepth 100000
set_option maxHeartbeats 4000000
namespace Mine
section
variable {prog : Program} {w : World} {A : Around} {E : Value → Shared → Prop} {s : Shared} {env : Env}

def SrcPost (prog : Program) (w : World) (A : Around) (s : Shared) (sl : List Addr) (n : Nat) (P : Nat → Value → Prop) (it : Value) (s₂ : Shared) : Prop :=
  ∃ I fp St oI, it = .ref I ∧ Walks prog w A I fp [I] n P St ∧ St 0 s₂.heap ∧ I = s.heap.objs.size ∧ (∀ b ∈ fp, b < s₂.heap.objs.size) ∧ (∀ b ∈ fp, b = I ∨ b ∈ sl) ∧ (∀ i h, St i h → ∃ o, h.get? I = some o) ∧ s₂ = { s with heap := s.heap.push oI }
def Src (prog : Program) (w : World) (A : Around) (E : Value → Shared → Prop) (xv : Value) (s : Shared) (sl : List Addr) (n : Nat) (P : Nat → Value → Prop) : Prop := wpAny (model prog w) A (pyIter xv) (SrcPost prog w A s sl n P) E s

theorem fresh_size (h : Heap) : h.get? h.objs.size = none := by
  cases e : h.get? h.objs.size with
  | none => rfl
  | some o => exact absurd (Heap.lt_size e) (Nat.lt_irrefl _)

theorem src_list {l : Addr} {vs : List Value} (hh : A.handled = none) (hl : s.heap.IsList l vs.toArray) : Src prog w A E (.ref l) s [l] vs.length (fun i v => vs[i]? = some v) := by
  have hlI : l ≠ s.heap.objs.size := let ⟨_, ho, _⟩ := hl; Nat.ne_of_lt (Heap.lt_size ho)
  have W := Walks.list (prog := prog) (w := w) (A := A) hh s.heap.objs.size l hlI vs.toArray
  have W' : Walks prog w A s.heap.objs.size [s.heap.objs.size, l] [s.heap.objs.size] vs.length (fun i v => vs[i]? = some v) (fun i h => h.IsListIter s.heap.objs.size l i ∧ h.IsList l vs.toArray) := by
    simpa only [List.size_toArray, List.getElem?_toArray] using W
  refine wpAny_pyIter_list hl ⟨_, _, _, _, rfl, W', ⟨⟨_, Heap.get?_push_size _ rfl, rfl, rfl⟩, hl.at fun o e => Heap.get?_push_of_some _ e⟩, rfl, ?_, ?_, ?_, rfl⟩
  · intro b hb
    dsimp only
    rw [Heap.size_push]
    simp only [List.mem_cons, List.not_mem_nil, or_false] at hb
    rcases hb with rfl | rfl
    · exact Nat.lt_succ_self _
    · obtain ⟨_, ho, _⟩ := hl
      exact Nat.lt_succ_of_lt (Heap.lt_size ho)
  · intro b hb
    simp only [List.mem_cons, List.not_mem_nil, or_false] at hb
    rcases hb with rfl | rfl
    · exact .inl rfl
    · exact .inr (.head _)
  · rintro i h ⟨⟨o, ho, _⟩, _⟩
    exact ⟨o, ho⟩

theorem src_str {x : Str} {t : Tok} (hh : A.handled = none) : Src prog w A E (.str x t) s [] x.cps.size (SignAt x) := by
  unfold Src
  cases ha : x.cps.all (· < 128)
  · refine wpAny_pyIter_wide ha ⟨_, _, _, _, rfl, Walks.strWide hh _ x t, ⟨_, Heap.get?_push_size _ rfl, rfl, rfl⟩, rfl, ?_, ?_, ?_, rfl⟩
    · intro b hb
      dsimp only
      rw [Heap.size_push]
      simp only [List.mem_singleton] at hb
      subst hb
      exact Nat.lt_succ_self _
    · intro b hb
      simp only [List.mem_singleton] at hb
      exact .inl hb
    · rintro i h ⟨o, ho, _⟩
      exact ⟨o, ho⟩
  · refine wpAny_pyIter_ascii ha ⟨_, _, _, _, rfl, Walks.strAscii hh _ x t, ⟨_, Heap.get?_push_size _ rfl, rfl, rfl⟩, rfl, ?_, ?_, ?_, rfl⟩
    · intro b hb
      dsimp only
      rw [Heap.size_push]
      simp only [List.mem_singleton] at hb
      subst hb
      exact Nat.lt_succ_self _
    · intro b hb
      simp only [List.mem_singleton] at hb
      exact .inl hb
    · rintro i h ⟨o, ho, _⟩
      exact ⟨o, ho⟩

theorem src_range {r : Addr} {n : Nat} {t u v : Tok} (hh : A.handled = none) (hr : IsRange s.heap r 0 n 1 t u v) (hn : n ≤ 1000000) : Src prog w A E (.ref r) s [] n (fun i v => i < n ∧ ∃ t, v = .int (i : Int) t) := by
  have W := (Walks.range (prog := prog) (w := w) (A := A) hh s.heap.objs.size 0 1 n).bound
  have W' : Walks prog w A s.heap.objs.size [s.heap.objs.size] [s.heap.objs.size] n (fun i v => i < n ∧ ∃ t, v = .int (i : Int) t) (fun i h => IsRangeIter h s.heap.objs.size (0 + (i : Nat) * 1) ((n : Int) - (i : Nat)) 1) := by
    simpa only [Int.zero_add, Int.mul_one] using W
  refine wpAny_pyIter_range hr (small_one (by decide) (by decide) (by omega) (by omega)) ⟨_, _, _, _, rfl, W', ?_, rfl, ?_, ?_, ?_, rfl⟩
  · have e1 : Builtin.Range.rangeSize 0 n 1 = n := by rw [rangeSize_one]; split <;> omega
    have e2 : (0 + ((0 : Nat) : Int) * 1) = 0 := rfl
    have e3 : ((n : Int) - ((0 : Nat) : Int)) = n := by omega
    rw [e1, e2, e3]
    exact Heap.get?_push_size _ rfl
  · intro b hb
    dsimp only
    rw [Heap.size_push]
    simp only [List.mem_singleton] at hb
    subst hb
    exact Nat.lt_succ_self _
  · intro b hb
    simp only [List.mem_singleton] at hb
    exact .inl hb
  · intro i h hI
    exact ⟨_, hI⟩

theorem Comp1 {elt iter : Expr} {x : Str} {px : Pos} {ifs : List Expr} {scope : Scope} {cl : List (Str × Addr)} {pos : Pos} {Q : Value → Shared → Prop} (p : Value → Bool) (R : Value → Value → Prop)
    (hclos : closureFor scope env = pure cl) (hcell : ∀ y ∈ scope.names, y.2 ≠ .cell) (hkind : scope.kind = .function)
    (hnames : ∀ y ∈ scope.names, y.2 = .local → scope.names.lookup y.1 = some .local) (hx : scope.names.lookup x = some .local)
    (h : wpAny (model prog w) A (eval iter env) (fun xv s₁ => ∃ sl n P, Src prog w A E xv s₁ sl n P ∧ n ≤ 1000000 ∧
      (∀ C i v s₃ m₃ E', P i v → s₃.heap.Ns C m₃ → m₃ x = some v → s₁.heap.objs.size ≤ C → (∀ b o, s₁.heap.get? b = some o → s₃.heap.get? b = some o) →
        wpAny (model prog w) A (forIn ifs true fun c r => if r = true then do let ok ← isTrue c (compEnvC scope cl C env) (eval c (compEnvC scope cl C env)); pure (ForInStep.yield ok) else pure (ForInStep.yield r)) (fun ok s₄ => ok = p v ∧ Keeps s₃ s₄) E' s₃) ∧
      (∀ C i v s₃ m₃ E', P i v → p v = true → s₃.heap.Ns C m₃ → m₃ x = some v → s₁.heap.objs.size ≤ C → (∀ b o, s₁.heap.get? b = some o → s₃.heap.get? b = some o) →
        wpAny (model prog w) A (eval elt (compEnvC scope cl C env)) (fun y s₄ => R v y ∧ Keeps s₃ s₄) E' s₃) ∧
      (∀ D h' tk ys (vs : List Value), s₁.heap.get? D = none → h'.PlainList D ys → vs.length = n → (∀ j v, vs[j]? = some v → P j v) → Paired R (vs.filter p) ys.toList →
        (∀ b o, s₁.heap.get? b = some o → h'.get? b = some o) → Q (.ref D) { s₁ with heap := h', toks := tk })) E s)
    (hs : ∀ x, foldedSetIterable iter env x = pure x := by intro _; rfl) :
    wpAny (model prog w) A (eval (.ListComp elt [⟨.Name x px, iter, ifs, 0⟩] scope pos) env) Q E s := by
  refine wpAny_ListComp_free p R hclos hcell hkind hnames hx (wpAny_mono h (fun xv s₁ h₁ => ?_) fun _ _ e => e) hs
  obtain ⟨sl, n, P, hsrc, hn, hte, hel, hfin⟩ := h₁
  refine wpAny_mono hsrc (fun it s₂ h₂ => ?_) fun _ _ e => e
  obtain ⟨I, fp, St, oI, rfl, W, hst, rfl, hfp, _, _, rfl⟩ := h₂
  have old : ∀ b o, s₁.heap.get? b = some o → b ∉ [s₁.heap.objs.size] := fun b o e hb => by
    simp only [List.mem_singleton] at hb
    subst hb
    exact absurd (Heap.lt_size e) (Nat.lt_irrefl _)
  have up : ∀ b o, s₁.heap.get? b = some o → (s₁.heap.push oI).get? b = some o := fun b o e => Heap.get?_push_of_some _ e
  have hz : s₁.heap.objs.size ≤ (s₁.heap.push oI).objs.size := by rw [Heap.size_push]; exact Nat.le_succ _
  refine ⟨_, fp, _, n, P, St, rfl, W, by rw [sizeLine_eq]; omega, hst, hfp, ⟨?_, ?_⟩, ?_⟩
  · intro C i v s₃ m₃ E' hC hP hn hm hk _
    exact hte C i v s₃ m₃ E' hP hn hm (Nat.le_trans hz hC) fun b o e => hk b o (old b o e) (up b o e)
  · intro C i v s₃ m₃ E' hC hP hpv hn hm hk _
    exact hel C i v s₃ m₃ E' hP hpv hn hm (Nat.le_trans hz hC) fun b o e => hk b o (old b o e) (up b o e)
  · intro D h' tk ys vs hD _ hpl hlen hP hF hk
    refine hfin D h' tk ys vs ?_ hpl hlen hP hF fun b o e => hk b o (old b o e) (up b o e)
    cases e : s₁.heap.get? D with
    | none => rfl
    | some o => exact absurd (hD.symm.trans (up D o e)) (by simp)

theorem For_src {Q : Flow → Shared → Prop} {x : Str} {px pos : Pos} {iter : Expr} {body : List Stmt} (h₀ : Heap) (hx : env.kindOf x = some .local)
    (hp : (env.scope.kind == .class || (env.scope.kind == .module && env.locals != env.globals)) = false)
    (h : wpAny (model prog w) A (eval iter env) (fun xv s₁ => ∃ (sl : List Addr) (n : Nat) (P : Nat → Value → Prop) (m : Str → Option Value) (lo led : List (Addr × Obj)) (J : Nat → (Str → Option Value) → List (Addr × Obj) → Prop), Src prog w A E xv s₁ sl n P ∧ Fr h₀ env.locals s₁.heap m ∧ News h₀ env.locals s₁.heap (lo ++ led) ∧ (∀ b ∈ sl, b ≠ env.locals ∧ ((∃ o, h₀.get? b = some o) ∨ ∃ o, (b, o) ∈ lo)) ∧ J 0 m led ∧
      (∀ (i : Nat) (v : Value) (m₁ : Str → Option Value) (led₁ : List (Addr × Obj)) (h₁ : Heap) (tk₁ : Nat) (I : Addr) (oI : Obj), i < n → P i v → J i m₁ led₁ → Fr h₀ env.locals h₁ (fun y => if y = x then some v else m₁ y) → News h₀ env.locals h₁ ((I, oI) :: (lo ++ led₁)) → (∀ p ∈ led₁, p.1 ≠ I) →
        wpAny (model prog w) A (execs body env) (fun f s₂ => f = .next ∧ ∃ (h' : Heap) (tk : Nat) (m₂ : Str → Option Value) (led₂ : List (Addr × Obj)), s₂ = { s₁ with heap := h', toks := tk } ∧ Fr h₀ env.locals h' m₂ ∧ News h₀ env.locals h' ((I, oI) :: (lo ++ led₂)) ∧ (∀ p ∈ led₂, p.1 ≠ I) ∧ J (i + 1) m₂ led₂) E { s₁ with heap := h₁, toks := tk₁ }) ∧
      (∀ (h' : Heap) (tk : Nat) (m' : Str → Option Value) (led' : List (Addr × Obj)), Fr h₀ env.locals h' m' → News h₀ env.locals h' (lo ++ led') → J n m' led' → Q .next { s₁ with heap := h', toks := tk })) E s)
    (hs : ∀ x, foldedSetIterable iter env x = pure x := by intro _; rfl)
    (hE : PassesOwn (model prog w) A env E := by passes_own) :
    wpAny (model prog w) A (exec (.For (.Name x px) iter body [] pos) env) Q E s := by
  refine For_led h₀ hx hp (wpAny_mono h (fun xv s₁ h₁ => ?_) fun _ _ e => e) hs hE
  obtain ⟨sl, n, P, m, lo, led, J, hsrc, F, N, hsl, h0, hstep, hfin⟩ := h₁
  refine wpAny_mono hsrc (fun it s₂ h₂ => ?_) fun _ _ e => e
  obtain ⟨I, fp, St, oI, rfl, W, hst, hI, hfp, hfs, hlive, rfl⟩ := h₂
  have hIn : ∀ p ∈ lo ++ led, p.1 ≠ I := fun p hp => by rw [hI]; exact Nat.ne_of_lt (Heap.lt_size (N p hp).1)
  have hLI : env.locals ≠ I := by rw [hI]; exact Nat.ne_of_lt F.ns.lt
  have hI0 : h₀.get? I = none := by rw [hI]; exact F.fresh
  refine ⟨n, P, m, lo ++ led, fun i m' led' => ∃ led₁, led' = lo ++ led₁ ∧ J i m' led₁, I, fp, [I], St,
    { isI := rfl, W := W, hLf := ?_, hwr := ?_, hst := hst, F := F.push _, N := N.pushKeep oI, hoff := ?_, h0 := ⟨led, rfl, h0⟩, step := ?_, hQ := ?_ }⟩
  · intro hb
    rcases hfs _ hb with e | e
    · exact hLI e
    · exact (hsl _ e).1 rfl
  · intro b hb
    simp only [List.mem_singleton] at hb
    rw [hb]; exact hI0
  · intro p hp hb
    simp only [List.mem_singleton] at hb
    exact hIn p hp hb
  · rintro i v m₁ led₁' h₁ tk₁ hi hP ⟨led₁, rfl, hJ⟩ F1 N1 hoff1 hst1
    obtain ⟨oJ, hoJ⟩ := hlive _ _ hst1
    have N1' : News h₀ env.locals h₁ ((I, oJ) :: (lo ++ led₁)) := by
      intro q hq
      rcases List.mem_cons.mp hq with rfl | hq
      · exact ⟨hoJ, Ne.symm hLI, hI0⟩
      · exact N1 q hq
    refine wpAny_mono (hstep i v m₁ led₁ h₁ tk₁ I oJ hi hP hJ F1 N1' fun p hp => ?_) (fun f s₃ h₃ => ?_) fun _ _ e => e
    · intro e
      exact hoff1 p (List.mem_append_right _ hp) (by rw [e]; exact .head _)
    · obtain ⟨rfl, h', tk', m₂, led₂, rfl, F2, N2, hoff2, hJ2⟩ := h₃
      refine ⟨rfl, h', tk', m₂, lo ++ led₂, rfl, F2, fun q hq => N2 q (.tail _ hq), ?_, ⟨led₂, rfl, hJ2⟩, ?_⟩
      · intro p hp hb
        simp only [List.mem_singleton] at hb
        rcases List.mem_append.mp hp with h1 | h1
        · exact hIn p (List.mem_append_left _ h1) hb
        · exact hoff2 p h1 hb
      · intro b hb o ho
        dsimp only at ho
        rcases hfs _ hb with e | e
        · subst e
          have e1 : some oJ = some o := hoJ.symm.trans ho
          injection e1 with e1
          rw [← e1]
          exact N2.get (.head _)
        · rcases (hsl _ e).2 with ⟨o', ho'⟩ | ⟨o', ho'⟩
          · have e1 : some o' = some o := (F1.keep _ _ ho').symm.trans ho
            injection e1 with e1
            rw [← e1]
            exact F2.keep _ _ ho'
          · have e1 : some o' = some o := (N1.get (List.mem_append_left _ ho')).symm.trans ho
            injection e1 with e1
            rw [← e1]
            exact N2.get (.tail _ (List.mem_append_left _ ho'))
  · rintro h' tk m' led' F' N' ⟨led₁, rfl, hJ⟩
    exact hfin h' tk m' led₁ F' N' hJ

theorem no_ifs {cenv : Env} {v : Value} {E' : Value → Shared → Prop} {s₃ : Shared} :
    wpAny (model prog w) A (forIn ([] : List Expr) true fun c r => if r = true then do let ok ← isTrue c cenv (eval c cenv); pure (ForInStep.yield ok) else pure (ForInStep.yield r)) (fun ok s₄ => ok = (fun _ : Value => true) v ∧ Keeps s₃ s₄) E' s₃ := by
  show wpAny _ _ (pure true) _ _ _
  exact wpAny_pure ⟨rfl, s₃.heap, s₃.toks, rfl, fun _ _ e => e⟩
end
end Mine
end
section
open PySem PySem.W PyProof.Rows PySem.Calls
set_option Elab.async false
set_option maxRecDepth 100000
set_option maxHeartbeats 4000000
namespace Mine
def IntsEnd (s : Shared) (ns : List Int) (v : Value) (s' : Shared) : Prop := Keeps s s' ∧ ∃ l vs, v = .ref l ∧ s.heap.get? l = none ∧ s'.heap.PlainList l (List.toArray vs) ∧ IntsAre vs ns
def figs (x : Int) : List Int := (List.range ((x.fmod 393216).fmod 3 + 1).toNat).map fun k => ((x.fmod 393216).fdiv (3 * 16 ^ k)).fmod 16
theorem intsAre_paired {R : Value → Value → Prop} : ∀ (ks : List Nat) (vs ys : List Value) (f : Nat → Int), ks.length = vs.length → (∀ (j : Nat) (v : Value), vs[j]? = some v → ∃ (k : Nat) (t : Tok), ks[j]? = some k ∧ v = Value.int (k : Int) t) → Paired R vs ys →
    (∀ (k : Nat) v y, (∃ t : Tok, v = Value.int (k : Int) t) → R v y → ∃ u, y = Value.int (f k) u) → IntsAre ys (ks.map f)
  | [], [], _, f, _, _, .nil, _ => .nil
  | [], _ :: _, _, f, h, _, _, _ => by simp at h
  | _ :: _, [], _, f, h, _, _, _ => by simp at h
  | k :: ks, v :: vs, _, f, h, hv, .cons hR hF, hf => by
    obtain ⟨k', t, hk, rfl⟩ := hv 0 v rfl
    have : k' = k := by simpa using hk.symm
    subst this
    obtain ⟨u, rfl⟩ := hf k' _ _ ⟨t, rfl⟩ hR
    exact .cons _ u (intsAre_paired ks vs _ f (by simpa using h) (fun j v e => hv (j + 1) v (by simpa using e)) hF hf)
section
variable {w : World} {mg mb : Str → Option Value} {mean : ExcName → Option Value} {s : Shared} {a : Addr} {d : Nat} {fr : Option (List Env)} {gs : Option (List Code)} {un : Nat}
theorem ld_boot {M : Model} {A : Around} {E : Value → Shared → Prop} {env : Env} {h₀ : Heap} {x : Str} {pos : Pos} {v : Value} {Q' : Value → Shared → Prop}
    (T : Top Q (looseW Q LS) mean mg mb h₀) (Y : YP w h₀) (hK : ∀ b o, h₀.get? b = some o → s.heap.get? b = some o) (hmiss : nsFind (mainEs w.params) x = none) (hv : bootBuiltins x = some v) (hn : x ≠ "__name__") (h : Q' v s)
    (hk : env.scope.kind = .function) (hx : env.kindOf x = some .globalImplicit) (hd : (x == ("__debug__" : Str)) = false) (hg : env.globals = mainGlobals) (hb : env.builtins = builtinsNs) :
    wpAny M A (eval (.Name x pos) env) Q' E s :=
  Name_function_global hk hx (loadGlobal_builtin (hg ▸ T.g.keeps hK) (by rw [mg_at T.g Y.1]; exact hmiss) (hb ▸ T.b.keeps hK) ((T.builtins x hn).trans hv) h) hd
theorem ld_glob {M : Model} {A : Around} {E : Value → Shared → Prop} {env : Env} {h₀ : Heap} {x : Str} {pos : Pos} {v : Value} {Q' : Value → Shared → Prop}
    (T : Top Q (looseW Q LS) mean mg mb h₀) (hK : ∀ b o, h₀.get? b = some o → s.heap.get? b = some o) (hv : mg x = some v) (h : Q' v s)
    (hk : env.scope.kind = .function) (hx : env.kindOf x = some .globalImplicit) (hd : (x == ("__debug__" : Str)) = false) (hg : env.globals = mainGlobals) :
    wpAny M A (eval (.Name x pos) env) Q' E s :=
  Name_function_global hk hx (loadGlobal_global (hg ▸ T.g.keeps hK) hv h) hd
theorem figures_call {x : Int} {t : Tok} (T : Top Q (looseW Q LS) mean mg mb s.heap) (Y : YP w s.heap) (hm : mg (fnName 10) = some (.ref a)) (hd : d < 500) :
   wpAny (model pw w) ⟨none, d, fr, gs, un⟩ (PySem.call (.ref a) [.int x t]) (IntsEnd s (figs x)) (fun _ _ => False) s := by
  obtain ⟨o, pm, cd, doc, ho, hdt, hcd⟩ := fn_at T 10 hm
  refine wpAny_call ?_
  refine call_cellsN_ret (binds := [("x", .int x t)]) (depth_ok (show d < 600 by omega)) ho hdt T.nolimit hcd (by kernel_rfl) (by intro y hy; simp only [List.mem_singleton] at hy; subst hy; exact .inl (by kernel_rfl)) (by decide +kernel) ?_ (by kernel_rfl) (by kernel_rfl) (by kernel_rfl)
  intro h₁ tk cells F N X
  have hcf : cellsFrom (s.heap.objs.size + 1) (fnScope 10).names [] = [(Str.ofString "v", s.heap.objs.size + 1)] := by kernel_rfl
  rw [hcf] at X
  obtain ⟨oc, rfl, hoc⟩ := X.one
  w_on
  w_top on
  with_unfolding_all refine wpAny_execs_cons ?_
  iterate 6 ((try dsimp only); walk1)
  rename_i h2 oc2 F2 N2 hoc2
  refine wpAny_execs_cons ?_
  walk1
  refine Comp1 (fun _ => true) (fun v y => ∃ k t u, v = .int k t ∧ y = .int (((x.fmod 393216).fdiv (3 * 16 ^ k.toNat)).fmod 16) u) (cl := [(Str.ofString "v", s.heap.objs.size + 1)]) (by kernel_rfl) (by decide +kernel) (by kernel_rfl) (by decide +kernel) (by kernel_rfl) ?_
  walk1
  refine ld_boot T Y F2.keep (by kernel_rfl) boot_range (by decide) ?_ (by kernel_rfl) (by kernel_rfl) (by decide) rfl rfl
  refine PyProof.Rows.callWith_type1 ?_
  refine spliced_more ?_
  iterate 2 walk1
  refine ldCN N2 (by kernel_rfl) (.head _) hoc2 ?_ (by kernel_rfl) (by kernel_rfl)
  iterate 5 ((try dsimp only); walk1)
  try dsimp only
  have hmod : 0 ≤ (x.fmod 393216).fmod 3 ∧ (x.fmod 393216).fmod 3 < 3 := ⟨Int.fmod_nonneg_of_pos _ (by decide), Int.fmod_lt_of_pos _ (by decide)⟩
  obtain ⟨n, hn⟩ : ∃ n : Nat, (x.fmod 393216).fmod 3 + 1 = n := ⟨((x.fmod 393216).fmod 3 + 1).toNat, by omega⟩
  rw [hn]
  refine range1_rows F2 N2 fun h3 tk3 t1 u1 v1 hr F3 N3 hk3 => ?_
  refine ⟨[], n, _, src_range rfl hr (by omega), by omega, fun C i v s₃ m₃ E' _ _ _ _ _ => no_ifs (v := v), ?_, ?_⟩
  · rintro C i v s₃ m₃ E' ⟨hi, t, rfl⟩ _ hns hm hC hk
    iterate 2 ((try dsimp only); walk1)
    refine wpAny_Name (wpAny_loadName_cell (by kernel_rfl) (by kernel_rfl) (by kernel_rfl) ⟨oc2, hk _ _ (N3.get (.head _)), hoc2⟩ ?_) (by decide)
    iterate 4 ((try dsimp only); walk1)
    refine wpAny_Name (wpAny_loadName_local (by kernel_rfl) (by kernel_rfl) hns hm ?_) (by decide)
    iterate 1 ((try dsimp only); walk1)
    iterate 1 ((try dsimp only); walk1)
    have hv : 0 ≤ x.fmod 393216 ∧ x.fmod 393216 < 393216 := ⟨Int.fmod_nonneg_of_pos _ (by decide), Int.fmod_lt_of_pos _ (by decide)⟩
    have hq0 : (3 * 16 ^ ((i : Int)).toNat : Int) = 3 ∨ (3 * 16 ^ ((i : Int)).toNat : Int) = 48 ∨ (3 * 16 ^ ((i : Int)).toNat : Int) = 768 := by
      have : i = 0 ∨ i = 1 ∨ i = 2 := by omega
      rcases this with rfl | rfl | rfl <;> decide
    obtain ⟨q, hq⟩ : ∃ q, (3 * 16 ^ ((i : Int)).toNat : Int) = q := ⟨_, rfl⟩
    rw [hq] at hq0 ⊢
    have hq1 : q ≠ 0 := by omega
    have hq2 : 0 < q := by omega
    iterate 3 ((try dsimp only); walk1)
    exact ⟨⟨i, t, _, rfl, by rw [← hq]⟩, ⟨_, _, rfl, fun _ _ e => e⟩⟩
  · intro D h' tk' ys vs hD hpl hlen hP hF hk'
    refine ⟨⟨h', tk', rfl, fun b o e => hk' b o (F3.keep b o e)⟩, D, ys.toList, rfl, ?_, hpl, ?_⟩
    · cases e : s.heap.get? D with
      | none => rfl
      | some o => exact absurd (hD.symm.trans (F3.keep D o e)) (by simp)
    · have hf : vs.filter (fun _ => true) = vs := List.filter_eq_self.mpr fun _ _ => rfl
      rw [hf] at hF
      have hn' : n = ((x.fmod 393216).fmod 3 + 1).toNat := by omega
      unfold figs
      rw [← hn']
      exact intsAre_paired (List.range n) vs ys.toList _ (by rw [List.length_range, hlen]) (fun j v hv => by
        obtain ⟨hj, t, rfl⟩ := hP j v hv
        exact ⟨j, t, List.getElem?_range hj, rfl⟩) hF (by
        rintro k v y ⟨t, rfl⟩ ⟨k', t', u, e, rfl⟩
        injection e with e1 e2
        subst e1
        exact ⟨u, rfl⟩)
end
end Mine
end
section
open PySem PySem.W PyProof.Rows PySem.Calls
set_option Elab.async false
set_option maxRecDepth 100000
set_option maxHeartbeats 1000000
set_option pp.maxSteps 4000
namespace Mine
def gone : List Int := [173, 847, 6150, 6155, 6156, 6157, 8203, 8204, 8205, 8288, 65279] ++ (List.range 16).map fun (k : Nat) => 65024 + (k : Int)
def strandsOf (x : Int) : List (Str × Str) :=
  [("a", "a"), ("A", "a"), ("B", "b"), (".", "."), ("ß", "ss"), ("\u200b", ""), ("ͺ", " ι"), ("㎒", "mhz"), (" ", " "), ("Ж", "ж"), ("ﬃ", "ffi"), (ch (gone.getD (x.fmod 27).toNat 0).toNat, ""), ("Ⅰ", "ⅰ"), (ch (19968 + x.fmod 20902).toNat, ch (19968 + x.fmod 20902).toNat), ("𝕏", "x"), ("c", "c")]
def st9 (i : Nat) : Stmt := (fnBody 9).getD i (.Pass { line := 0, col := 0, endLine := 0, endCol := 0 })
def elts9 : List Expr := match st9 2 with | .Return (some (.List e _)) _ => e | _ => []
def cP (a b : Nat) : Pos := { line := 27, col := a, endLine := 27, endCol := b }
def cS (s : String) (a b : Nat) : Expr := .Constant (.str (Str.ofString s)) 0 (cP a b)
theorem body9 : fnBody 9 = [st9 0, st9 1, .Return (some (.List elts9 { line := 27, col := 11, endLine := 27, endCol := 250 })) { line := 27, col := 4, endLine := 27, endCol := 250 }] := by kernel_rfl
theorem elts9_eq : elts9 = [.List [cS "a" 13 16, cS "a" 18 21] (cP 12 22),
  .List [cS "A" 25 28, cS "a" 30 33] (cP 24 34),
  .List [cS "B" 37 40, cS "b" 42 45] (cP 36 46),
  .List [cS "." 49 52, cS "." 54 57] (cP 48 58),
  .List [cS "ß" 61 65, cS "ss" 67 71] (cP 60 72),
  .List [cS "\u200b" 75 83, cS "" 85 87] (cP 74 88),
  .List [cS "ͺ" 91 95, cS " ι" 97 102] (cP 90 103),
  .List [cS "㎒" 106 111, cS "mhz" 113 118] (cP 105 119),
  .List [cS " " 122 125, cS " " 127 130] (cP 121 131),
  .List [cS "Ж" 134 138, cS "ж" 140 144] (cP 133 145),
  .List [cS "ﬃ" 148 153, cS "ffi" 155 160] (cP 147 161),
  .List [.Call (.Name (Str.ofString "chr") (cP 164 167)) [.Subscript (.Name (Str.ofString "gone") (cP 168 172)) (.BinOp (.Name (Str.ofString "total") (cP 173 178)) .Mod (.Constant (.int 27) 0 (cP 181 183)) (cP 173 183)) (cP 168 184)] [] (cP 164 185), cS "" 187 189] (cP 163 190),
  .List [cS "Ⅰ" 193 198, cS "ⅰ" 200 205] (cP 192 206),
  .List [.Name (Str.ofString "other") (cP 209 214), .Name (Str.ofString "other") (cP 216 221)] (cP 208 222),
  .List [cS "𝕏" 225 231, cS "x" 233 236] (cP 224 237),
  .List [cS "c" 240 243, cS "c" 245 248] (cP 239 249)] := by kernel_rfl
def PairIs (h₀ h : Heap) (v : Value) (p : Str × Str) : Prop := ∃ D t u, v = .ref D ∧ h₀.get? D = none ∧ h.PlainList D #[.str p.1 t, .str p.2 u]
theorem PairIs.up {h₀ h₀' h h' : Heap} {v : Value} {p : Str × Str} (x : PairIs h₀ h v p) (h0 : ∀ b o, h₀'.get? b = some o → h₀.get? b = some o) (hk : ∀ b o, h.get? b = some o → h'.get? b = some o) : PairIs h₀' h' v p := by
  obtain ⟨D, t, u, rfl, hD, n, hp⟩ := x
  refine ⟨D, t, u, rfl, ?_, n, hk _ _ hp⟩
  cases e : h₀'.get? D with
  | none => rfl
  | some o => exact absurd (hD.symm.trans (h0 _ _ e)) (by simp)
def StrandsEnd (s : Shared) (ps : List (Str × Str)) (v : Value) (s' : Shared) : Prop := Keeps s s' ∧ ∃ l vs, v = .ref l ∧ s.heap.get? l = none ∧ s'.heap.PlainList l (List.toArray vs) ∧ Paired (PairIs s.heap s'.heap) vs ps
section
variable {M : Model} {A : Around} {E : Value → Shared → Prop} {h₀ : Heap} {L g : Addr} {m : Str → Option Value} {env : Env} {vsG : List Value}
def PairEv (M : Model) (A : Around) (E : Value → Shared → Prop) (h₀ : Heap) (L : Addr) (m : Str → Option Value) (env : Env) (g : Addr) (vsG : List Value) (e : Expr) (p : Str × Str) : Prop :=
  (∀ rest, starEach (e :: rest) env = (false, eval e env) :: starEach rest env) ∧ ∀ (s : Shared) (Q : Value → Shared → Prop), Fr h₀ L s.heap m → s.heap.IsList g vsG.toArray →
    (∀ v h' tk, Fr h₀ L h' m → PairIs s.heap h' v p → (∀ b o, s.heap.get? b = some o → h'.get? b = some o) → Q v { s with heap := h', toks := tk }) → wpAny M A (eval e env) Q E s
theorem pairEv_of {e1 e2 : Expr} {pos : Pos} {a b : Str} (hs : ∀ rest, starEach (Expr.List [e1, e2] pos :: rest) env = (false, eval (Expr.List [e1, e2] pos) env) :: starEach rest env)
    (h1 : ∀ (s : Shared) (Q : Value → Shared → Prop), Fr h₀ L s.heap m → s.heap.IsList g vsG.toArray → (∀ t tk, Q (.str a t) { s with toks := tk }) → wpAny M A (eval e1 env) Q E s)
    (h2 : ∀ (s : Shared) (Q : Value → Shared → Prop), Fr h₀ L s.heap m → s.heap.IsList g vsG.toArray → (∀ t tk, Q (.str b t) { s with toks := tk }) → wpAny M A (eval e2 env) Q E s)
    (he1 : starEach [e1, e2] env = (false, eval e1 env) :: starEach [e2] env) (he2 : starEach [e2] env = (false, eval e2 env) :: starEach [] env) :
    PairEv M A E h₀ L m env g vsG (.List [e1, e2] pos) (a, b) := by
  refine ⟨hs, fun s Q F hg h => List_ ?_⟩
  refine spliced_more (h1 s _ F hg fun t tk => ?_) he1
  refine spliced_more (h2 _ _ F hg fun u tk' => ?_) he2
  refine spliced_none ?_
  refine wpAny_newObj_type (h _ _ _ (F.push _) ⟨_, t, u, rfl, fresh_size _, 0, Heap.get?_push_size _ rfl⟩ (fun _ _ e => Heap.get?_push_of_some _ e)) (by show 2 ≤ sizeLine; decide)
theorem ev_lit {x : String} {p q : Nat} {s : Shared} {Q : Value → Shared → Prop} (h : ∀ t tk, Q (.str (Str.ofString x) t) { s with toks := tk }) : wpAny M A (eval (cS x p q) env) Q E s := by
  refine eval_litDatum (d := .str (Str.ofString x)) rfl fun v tk hv => ?_
  have hv' := hv { objs := #[] }
  cases hv'
  exact h _ tk
theorem pairEv_lit {a b : String} {p q r u l k : Nat} : PairEv M A E h₀ L m env g vsG (.List [cS a p q, cS b r u] (cP l k)) (Str.ofString a, Str.ofString b) :=
  pairEv_of (fun _ => rfl) (fun _ _ _ _ h => ev_lit h) (fun _ _ _ _ h => ev_lit h) rfl rfl
theorem pairEvs {pos : Pos} {elts : List Expr} {ps : List (Str × Str)} (X : Paired (PairEv M A E h₀ L m env g vsG) elts ps) : ∀ (s : Shared) (Q : List Value → Shared → Prop), Fr h₀ L s.heap m → s.heap.IsList g vsG.toArray →
    (∀ vs h' tk, Fr h₀ L h' m → Paired (PairIs s.heap h') vs ps → (∀ b o, s.heap.get? b = some o → h'.get? b = some o) → Q vs { s with heap := h', toks := tk }) → wpAny M A (spliced (backTo pos (starEach elts env))) Q E s := by
  induction X with
  | nil => exact fun s Q F hg h => spliced_none (h [] s.heap s.toks F .nil fun _ _ e => e)
  | @cons e p es ps hp hps ih =>
    intro s Q F hg h
    refine spliced_more (hp.2 s _ F hg fun v h1 tk1 F1 hv hk1 => ?_) (hp.1 es)
    refine ih _ _ F1 (lstKept hg hk1) fun vs h2 tk2 F2 hvs hk2 => ?_
    exact h _ h2 tk2 F2 (.cons (hv.up (fun _ _ e => e) hk2) (hvs.mono fun _ _ x => x.up hk1 fun _ _ e => e)) fun b o e => hk2 b o (hk1 b o e)
theorem pairEvsF {pos : Pos} {elts : List Expr} {ps : List (Str × Str)} {s : Shared} {Q : List Value → Shared → Prop} (F : Fr h₀ L s.heap m) (hg : s.heap.IsList g vsG.toArray) (X : Paired (PairEv M A E h₀ L m env g vsG) elts ps)
    (h : ∀ vs h' tk, Fr h₀ L h' m → Paired (PairIs s.heap h') vs ps → (∀ b o, s.heap.get? b = some o → h'.get? b = some o) → Q vs { s with heap := h', toks := tk }) : wpAny M A (spliced (backTo pos (starEach elts env))) Q E s := pairEvs X s Q F hg h
end
theorem paired_length {α β : Type} {R : α → β → Prop} {l : List α} {r : List β} (h : Paired R l r) : l.length = r.length := by
  induction h with
  | nil => rfl
  | cons _ _ ih => exact congrArg (· + 1) ih
theorem gone_range (j : Nat) : 0 ≤ gone.getD j 0 ∧ gone.getD j 0 ≤ 1114111 := by
  rw [List.getD_eq_getElem?_getD]
  cases e : gone[j]? with
  | none => decide
  | some v =>
    have hm := List.mem_of_getElem? e
    have : ∀ v ∈ gone, 0 ≤ v ∧ v ≤ 1114111 := by decide
    exact this v hm
theorem dataAre_ints : ∀ {vs : List Value} {ns : List Int}, DataAre vs (ns.map .int) → IntsAre vs ns
  | _, [], .nil => .nil
  | _, n :: ns, .cons (v := v) hv h => by
    have hv' := hv { objs := #[] }
    cases hv'
    exact .cons n _ (dataAre_ints h)
theorem intsAre_length : ∀ {vs : List Value} {ns : List Int}, IntsAre vs ns → vs.length = ns.length
  | _, _, .nil => rfl
  | _, _, .cons _ _ h => congrArg (· + 1) (intsAre_length h)
theorem intsAre_append : ∀ {vs ws : List Value} {ns ms : List Int}, IntsAre vs ns → IntsAre ws ms → IntsAre (vs ++ ws) (ns ++ ms)
  | _, _, _, _, .nil, h => h
  | _, _, _, _, .cons n t h, h' => .cons n t (intsAre_append h h')
section
variable {w : World} {mg mb : Str → Option Value} {mean : ExcName → Option Value} {s : Shared} {a : Addr} {d : Nat} {fr : Option (List Env)} {gs : Option (List Code)} {un : Nat}
theorem strands_call {x : Int} {t : Tok} (T : Top Q (looseW Q LS) mean mg mb s.heap) (Y : YP w s.heap) (hm : mg (fnName 9) = some (.ref a)) (hd : d < 500) :
   wpAny (model pw w) ⟨none, d, fr, gs, un⟩ (PySem.call (.ref a) [.int x t]) (StrandsEnd s (strandsOf x)) (fun _ _ => False) s := by
  obtain ⟨o, pm, cd, doc, ho, hdt, hcd⟩ := fn_at T 9 hm
  refine wpAny_call ?_
  refine call_plain_ret (binds := [("total", .int x t)]) (depth_ok (show d < 600 by omega)) ho hdt T.nolimit hcd (by kernel_rfl) (locs (by kernel_rfl)) ?_ (by kernel_rfl) (by kernel_rfl) (by kernel_rfl) (by decide +kernel)
  intro h₁ F
  have N : News s.heap s.heap.objs.size h₁ [] := News.nil
  w_on
  w_top on
  rw [body9]
  generalize hE9 : elts9 = elts
  refine wpAny_execs_cons ?_
  conv in st9 0 => whnf
  iterate 3 ((try dsimp only); walk1)
  refine spliced_lits _ ([173, 847, 6150, 6155, 6156, 6157, 8203, 8204, 8205, 8288, 65279].map .int) _ _ rfl fun vs1 tk1 hvs1 => ?_
  have hI1 := dataAre_ints hvs1
  refine newList_G F N (fun D1 h2 F2 N2 _ _ => ?_) (by rw [intsAre_length hI1]; decide)
  refine Comp1 (fun _ => true) (fun v y => ∃ (k : Nat) (t u : Tok), v = .int k t ∧ y = .int (65024 + (k : Int)) u) (cl := []) (by kernel_rfl) (by decide +kernel) (by kernel_rfl) (by decide +kernel) (by kernel_rfl) ?_
  walk1
  refine ld_boot T Y F2.keep (by kernel_rfl) boot_range (by decide) ?_ (by kernel_rfl) (by kernel_rfl) (by decide) rfl rfl
  refine PyProof.Rows.callWith_type1 ?_
  refine spliced_more ?_
  iterate 2 ((try dsimp only); walk1)
  try dsimp only
  refine range1_rows (n := ((16 : Nat) : Int)) F2 N2 fun h3 tk3 t1 u1 v1 hr F3 N3 hk3 => ?_
  refine ⟨[], 16, _, src_range rfl hr (by omega), by omega, fun C i v s₃ m₃ E' _ _ _ _ _ => no_ifs (v := v), ?_, ?_⟩
  · rintro C i v s₃ m₃ E' ⟨hi, t, rfl⟩ _ hns hm hC hk
    iterate 2 ((try dsimp only); walk1)
    refine wpAny_Name (wpAny_loadName_local (by kernel_rfl) (by kernel_rfl) hns hm ?_) (by decide)
    iterate 1 ((try dsimp only); walk1)
    exact ⟨⟨i, t, _, rfl, rfl⟩, ⟨_, _, rfl, fun _ _ e => e⟩⟩
  · intro D2 h4 tk4 ys vs2 hD2 hpl2 hlen2 hP2 hF2 hk4
    have hf : vs2.filter (fun _ => true) = vs2 := List.filter_eq_self.mpr fun _ _ => rfl
    rw [hf] at hF2
    have hI2 : IntsAre ys.toList ((List.range 16).map fun (k : Nat) => 65024 + (k : Int)) := intsAre_paired (List.range 16) vs2 ys.toList _ (by rw [List.length_range, hlen2]) (fun j v hv => by
        obtain ⟨hj, t, rfl⟩ := hP2 j v hv
        exact ⟨j, t, List.getElem?_range hj, rfl⟩) hF2 (by
        rintro k v y ⟨t, rfl⟩ ⟨k', t', u, e, rfl⟩
        injection e with e1 e2
        rw [e1]
        exact ⟨u, rfl⟩)
    have F4 := F3.keeps hk4
    have N4 := news_keep N3 hk4
    refine add_lists_G F4 N4 (vs := vs1) (ws := ys.toList) ⟨_, N4.get (.head _), rfl, _, rfl⟩ hpl2.isList (fun D5 h5 F5 N5 => ?_) (by rw [intsAre_length hI1, intsAre_length hI2]; decide)
    have hI : IntsAre (vs1 ++ ys.toList) gone := intsAre_append hI1 hI2
    refine stN F5 N5 (fun h6 F6 N6 => ?_) (by kernel_rfl) (by kernel_rfl)
    try dsimp only
    refine wpAny_execs_cons ?_
    conv in st9 1 => whnf
    iterate 13 ((try dsimp only); walk1)
    try dsimp only
    have hmo : 0 ≤ x.fmod 20902 ∧ x.fmod 20902 < 20902 := ⟨Int.fmod_nonneg_of_pos _ (by decide), Int.fmod_lt_of_pos _ (by decide)⟩
    refine chr_of_range (by omega) (by omega) ?_
    refine stN F6 N6 (fun h7 F7 N7 => ?_) (by kernel_rfl) (by kernel_rfl)
    try dsimp only
    refine wpAny_execs_cons ?_
    walk1
    refine List_ ?_
    have hlG : h7.IsList D5 (vs1 ++ ys.toList).toArray := ⟨_, N7.get (.head _), rfl, _, rfl⟩
    refine pairEvsF (ps := strandsOf x) F7 hlG ?_ ?_
    · rw [← hE9, elts9_eq]
      unfold strandsOf
      iterate 11 refine .cons pairEv_lit ?_
      refine .cons (pairEv_of (fun _ => rfl) ?_ (fun _ _ _ _ h => ev_lit h) rfl rfl) ?_
      · intro s' Q' F' hg' h'
        walk1
        refine ld_boot T Y F'.keep (by kernel_rfl) boot_chr (by decide) ?_ (by kernel_rfl) (by kernel_rfl) (by decide) rfl rfl
        iterate 8 ((try dsimp only); walk1)
        have hm27 : 0 ≤ x.fmod 27 ∧ x.fmod 27 < 27 := ⟨Int.fmod_nonneg_of_pos _ (by decide), Int.fmod_lt_of_pos _ (by decide)⟩
        have hgl : gone.length = 27 := by decide
        refine item_list_ints hg' hI hm27.1 (by rw [hgl]; exact hm27.2) (by omega) (fun tt => ?_)
        refine spliced_none ?_
        have hgr := gone_range (x.fmod 27).toNat
        refine chr_of_range hgr.1 hgr.2 ?_
        exact h' _ _
      refine .cons pairEv_lit ?_
      refine .cons (pairEv_of (fun _ => rfl) (fun s' Q' F' _ h' => ?_) (fun s' Q' F' _ h' => ?_) rfl rfl) ?_
      · exact ld F' rfl (h' _ _) (by kernel_rfl) (by kernel_rfl) (by decide)
      · exact ld F' rfl (h' _ _) (by kernel_rfl) (by kernel_rfl) (by decide)
      iterate 2 refine .cons pairEv_lit ?_
      exact .nil
    · intro vs8 h8 tk8 F8 hP8 hk8
      have N8 := news_keep N7 hk8
      have hl8 : vs8.length = 16 := paired_length hP8
      refine newList_G F8 N8 (fun D9 h9 F9 N9 hD9 hk9 => ?_) (by rw [hl8]; decide)
      exact ⟨keeps_fr F9, D9, vs8, rfl, N9.fresh (.head _), ⟨_, N9.get (.head _)⟩, hP8.mono fun _ _ x => x.up F7.keep hk9⟩
end
end Mine
end
section
open PySem PySem.W PyProof.Rows PySem.Calls
set_option Elab.async false
set_option maxRecDepth 100000
set_option maxHeartbeats 1000000
set_option pp.maxSteps 4000
namespace Mine
def figsOf (xs : List Int) : List Int := [1, 4, 7, 3, 2, 6, 0, 9] ++ xs.flatMap figs
def figsAll (xs : List Int) : List Int := figsOf (xs.take 8) ++ [10, 5, 8, 13, 15, 14, 12, 4]
def lineOf (ps : List (Str × Str)) (xs : List Int) : Str := Txt.join (Str.ofString "") ((figsAll xs).map fun f => (ps.getD f.toNat (Str.empty, Str.empty)).1)
theorem add_lists_H {prog : Program} {w : World} {A : Around} {E : Value → Shared → Prop} {s : Shared} {h₀ : Heap} {L : Addr} {m : Str → Option Value} {news : List (Addr × Obj)} {l b : Addr} {vs ws : List Value} {Q : Value → Shared → Prop} (F : Fr h₀ L s.heap m) (N : News h₀ L s.heap news) (hl : s.heap.IsList l vs.toArray) (hb : s.heap.IsList b ws.toArray)
    (h : ∀ D h', s.heap.get? D = none → Fr h₀ L h' m → News h₀ L h' ((D, { cls := .type "list", data := .seq (vs ++ ws).toArray }) :: news) → Q (.ref D) { s with heap := h' })
    (hsz : vs.length + ws.length ≤ 3000000) :
    wpAny (model prog w) A (binaryOp .Add (.ref l) (.ref b)) Q E s :=
  add_lists (vs := vs) (ws := ws) (hsz := by rw [sizeLine_eq]; omega) F N hl hb (fun h' F' N' => h _ h' (fresh_size _) F' N')
theorem ne_of_fresh {h₀ h : Heap} {L D : Addr} {news : List (Addr × Obj)} {q : Addr × Obj} (N : News h₀ L h news) (hq : q ∈ news) (hD : h.get? D = none) : D ≠ q.1 := by
  intro e
  rw [e] at hD
  exact absurd (hD.symm.trans (N q hq).1) (by simp)
theorem item_list_T {prog : Program} {w : World} {A : Around} {E : Value → Shared → Prop} {s : Shared} {value slice : Expr} {l : Addr} {items : Array Value} {k : Int} {u : Tok} {x : Value} {Q : Value → Shared → Prop} (hl : s.heap.IsList l items)
    (h0 : 0 ≤ k) (hfit : k < 2 ^ 63) (hx : items[k.toNat]? = some x) (h : Q x s)
    (hs : subscripted slice false (.ref l) (.int k u) = operate [.ref l, .int k u] (getItem (.ref l) (.int k u)) := by with_unfolding_all rfl) :
    wpAny (model prog w) A (subscriptTail value slice (.ref l) (.int k u)) Q E s :=
  tail_any hl.typeIs slot_list_getitem.lookup (wpAny_getItem_list hl h0 hfit hx h) hs
theorem length_figs (z : Int) : (figs z).length ≤ 3 := by
  unfold figs
  rw [List.length_map, List.length_range]
  have h1 : (z.fmod 393216).fmod 3 < 3 := Int.fmod_lt_of_pos _ (by decide)
  omega
theorem length_figsOf (ys : List Int) : (figsOf ys).length ≤ 8 + 3 * ys.length := by
  unfold figsOf
  rw [List.length_append]
  have : (ys.flatMap figs).length ≤ 3 * ys.length := by
    induction ys with
    | nil => exact Nat.le_refl _
    | cons y ys ih =>
      rw [List.flatMap_cons, List.length_append, List.length_cons]
      have := length_figs y
      omega
  have e : ([1, 4, 7, 3, 2, 6, 0, 9] : List Int).length = 8 := rfl
  omega
theorem intsAre_get : ∀ {vs : List Value} {ns : List Int}, IntsAre vs ns → ∀ {i : Nat} {v : Value}, vs[i]? = some v → ∃ z t, v = .int z t ∧ ns[i]? = some z
  | _, _, .nil, i, v, h => by simp at h
  | _, _, .cons y t h', 0, v, h => ⟨y, t, by simpa using h.symm, rfl⟩
  | _, _, .cons y t h', i + 1, v, h => intsAre_get h' (by simpa using h)
theorem strsAre_paired {R : Value → Value → Prop} {g : Int → Str} : ∀ {vs : List Value} {ns : List Int} {ys : List Value}, IntsAre vs ns → Paired R vs ys → (∀ f t y, R (.int f t) y → ∃ u, y = .str (g f) u) → StrsAre ys (ns.map g)
  | _, _, _, .nil, .nil, _ => .nil
  | _, _, _, .cons n t h, .cons hR hF, hg => by
    obtain ⟨u, rfl⟩ := hg _ _ _ hR
    exact .cons _ u (strsAre_paired h hF hg)
theorem sum_le : ∀ (l : List Str), (∀ y ∈ l, y.length ≤ 1) → (l.map (·.length)).sum ≤ l.length
  | [], _ => Nat.le_refl _
  | y :: l, h => by
    have h1 := h y (.head _)
    have h2 := sum_le l fun z hz => h z (.tail _ hz)
    rw [List.map_cons, List.sum_cons, List.length_cons]
    omega
theorem figs_range (z : Int) : ∀ f ∈ figs z, 0 ≤ f ∧ f < 16 := by
  intro f hf
  obtain ⟨k, _, rfl⟩ := List.mem_map.mp hf
  exact ⟨Int.fmod_nonneg_of_pos _ (by decide), Int.fmod_lt_of_pos _ (by decide)⟩
theorem figsAll_range (xs : List Int) : ∀ f ∈ figsAll xs, 0 ≤ f ∧ f < 16 := by
  intro f hf
  unfold figsAll figsOf at hf
  rcases List.mem_append.mp hf with hf | hf
  · rcases List.mem_append.mp hf with hf | hf
    · have : ∀ f ∈ ([1, 4, 7, 3, 2, 6, 0, 9] : List Int), 0 ≤ f ∧ f < 16 := by decide
      exact this f hf
    · obtain ⟨z, _, hz⟩ := List.mem_flatMap.mp hf
      exact figs_range z f hz
  · have : ∀ f ∈ ([10, 5, 8, 13, 15, 14, 12, 4] : List Int), 0 ≤ f ∧ f < 16 := by decide
    exact this f hf
theorem paired_get {α β : Type} {R : α → β → Prop} {l : List α} {r : List β} (h : Paired R l r) : ∀ {i : Nat} {q : β}, r[i]? = some q → ∃ v, l[i]? = some v ∧ R v q := by
  induction h with
  | nil => intro i q hq; simp at hq
  | cons hR _ ih =>
    intro i q hq
    cases i with
    | zero =>
      have e := Option.some.inj hq
      exact ⟨_, rfl, e ▸ hR⟩
    | succ i => exact ih hq
section
variable {w : World} {mg mb : Str → Option Value} {mean : ExcName → Option Value} {s : Shared} {a : Addr} {d : Nat} {fr : Option (List Env)} {gs : Option (List Code)} {un : Nat}
theorem line_call {l ls : Addr} {vs vss : List Value} {xs : List Int} {ps : List (Str × Str)} {h0 : Heap} (T : Top Q (looseW Q LS) mean mg mb s.heap) (Y : YP w s.heap) (hm : mg (fnName 11) = some (.ref a)) (hd : d < 400)
    (hl : s.heap.IsList l vs.toArray) (hI : IntsAre vs xs) (hn : xs.length ≤ 1000000) (hls : s.heap.IsList ls vss.toArray) (hps : Paired (PairIs h0 s.heap) vss ps) (hp16 : ps.length = 16) (hp1 : ∀ p ∈ ps, p.1.length ≤ 1) :
   wpAny (model pw w) ⟨none, d, fr, gs, un⟩ (PySem.call (.ref a) [.ref l, .ref ls]) (StrEnd s (lineOf ps xs)) (fun _ _ => False) s := by
  obtain ⟨o, pm, cd, doc, ho, hdt, hcd⟩ := fn_at T 11 hm
  refine wpAny_call ?_
  refine call_cellsN_ret (binds := [("script", .ref l), ("strands", .ref ls)]) (depth_ok (show d < 600 by omega)) ho hdt T.nolimit hcd (by kernel_rfl) (by
    intro y hy; simp only [List.mem_cons, List.not_mem_nil, or_false] at hy
    rcases hy with rfl | rfl
    · exact .inl (by kernel_rfl)
    · exact .inr ⟨by kernel_rfl, by kernel_rfl⟩) (by decide +kernel) ?_ (by kernel_rfl) (by kernel_rfl) (by kernel_rfl)
  intro h₁ tk cells F N X
  have hcf : cellsFrom (s.heap.objs.size + 1) (fnScope 11).names [] = [(Str.ofString "strands", s.heap.objs.size + 1)] := by kernel_rfl
  rw [hcf] at X
  obtain ⟨oc, rfl, hoc⟩ := X.one
  w_on
  w_top on
  with_unfolding_all refine wpAny_execs_cons ?_
  iterate 2 ((try dsimp only); walk1)
  refine spliced_lits _ ([1, 4, 7, 3, 2, 6, 0, 9].map .int) _ _ rfl fun vs1 tk1 hvs1 => ?_
  have hI1 := dataAre_ints hvs1
  refine newList_G F N (fun D1 h2 F2 N2 _ _ => ?_) (by rw [intsAre_length hI1]; decide)
  refine stLocN F2 N2 (fun h3 F3 N3 => ?_) (by kernel_rfl) (by kernel_rfl)
  try dsimp only
  obtain ⟨m3, hm3⟩ : ∃ m3, m3 = (fun y => if y = Str.ofString "figures" then some (Value.ref D1) else bindL (envOfC (fnName 11) (fnScope 11) s.heap.objs.size a cd).kindOf [(Str.ofString "script", .ref l), (Str.ofString "strands", .ref ls)] (fun _ => none) y) := ⟨_, rfl⟩
  have F3' : Fr s.heap s.heap.objs.size h3 m3 := by rw [hm3]; exact F3
  have hms : m3 (Str.ofString "script") = some (.ref l) := by rw [hm3]; kernel_rfl
  have hmf : m3 (Str.ofString "figures") = some (.ref D1) := by rw [hm3]; exact if_pos rfl
  clear F3
  refine wpAny_execs_cons ?_
  refine For_src s.heap (by kernel_rfl) (by kernel_rfl) ?_
  walk1
  refine ldLoc F3' hms ?_ (by kernel_rfl) (by kernel_rfl) (by decide)
  iterate 5 ((try dsimp only); walk1)
  try dsimp only
  refine slice_list (s := { s with heap := h3, toks := _ }) (lo := none) (hi := some 8) F3' N3 (F3'.lst hl) .none (.int _ _) (fun h4 F4 N4 => ?_) (hsz := by
    rw [List.size_toArray, intsAre_length hI, sizeLine_eq]; omega)
  have hI8 := kmk_upto (y := 8) hI (by decide)
  obtain ⟨ws8, hws8⟩ : ∃ ws8 : List Value, slicePick vs.toArray none (some 8) none = ws8.toArray := ⟨_, rfl⟩
  rw [hws8] at N4 hI8
  obtain ⟨DS, hDS⟩ : ∃ DS, DS = h3.objs.size + 1 := ⟨_, rfl⟩
  change News _ _ _ ((h3.objs.size + 1, _) :: _) at N4
  rw [← hDS] at N4
  have e8 : ({ s with heap := h3, toks := tk1 + 1 + 1 } : Shared).heap.objs.size + 1 = DS := hDS.symm
  rw [e8]
  clear hDS e8
  refine ⟨[DS], ws8.length, _, m3, [(DS, { cls := .type "list", data := .seq ws8.toArray })], _, fun i m led => (∀ y, y ≠ Str.ofString "x" → y ≠ Str.ofString "figures" → m y = m3 y) ∧
      ∃ p ws n, m (Str.ofString "figures") = some (.ref p) ∧ led = [(p, { cls := .type "list", data := .seq (List.toArray ws) n }), (s.heap.objs.size + 1, oc)] ∧ IntsAre ws (figsOf ((xs.take 8).take i)),
    src_list rfl ⟨_, N4.get (.head _), rfl, _, rfl⟩, F4, N4, ?_, ?_, ?_, ?_⟩
  · intro b hb
    simp only [List.mem_singleton] at hb
    subst hb
    exact ⟨(N4 _ (.head _)).2.1, .inr ⟨_, .head _⟩⟩
  · exact ⟨fun _ _ _ => rfl, D1, vs1, 0, hmf, rfl, by simpa [figsOf] using hI1⟩
  · rintro i v m₁ led₁ h₅ tk₅ I oI hi hP ⟨hm₁, p, ws, n, hp, rfl, hW⟩ F5 N5 hoff
    obtain ⟨z, tz, rfl, hz⟩ := intsAre_get hI8 hP
    have hz8 : (xs.take 8)[i]? = some z := hz
    have hxm : (fun y => if y = Str.ofString "x" then some (Value.int z tz) else m₁ y) (Str.ofString "x") = some (Value.int z tz) := if_pos rfl
    have hfm : (fun y => if y = Str.ofString "x" then some (Value.int z tz) else m₁ y) (Str.ofString "figures") = some (Value.ref p) := (if_neg (by decide)).trans hp
    have hwl : ws.length ≤ 100 := by
      rw [intsAre_length hW]
      have h1 := length_figsOf ((xs.take 8).take i)
      have h2 : ((xs.take 8).take i).length ≤ 8 := by rw [List.length_take, List.length_take]; omega
      omega
    refine wpAny_execs_cons ?_
    iterate 2 ((try dsimp only); walk1)
    refine ldLoc F5 hfm ?_ (by kernel_rfl) (by kernel_rfl) (by decide)
    walk1
    refine ld_glob T F5.keep (mg_fn T.g Y _ 102 (by kernel_rfl)) ?_ (by kernel_rfl) (by kernel_rfl) (by decide) rfl
    refine callFn T 10 (mg_fn T.g Y _ 102 (by kernel_rfl)) ?_
    refine spliced_more ?_
    refine ldLoc F5 hxm ?_ (by kernel_rfl) (by kernel_rfl) (by decide)
    refine spliced_none ⟨F5.keep, ?_⟩
    have T5 := T.keeps F5.keep
    have Y5 := Y.keeps F5.keep
    refine wpAny_mono (figures_call (d := d + 1) T5 Y5 (mg_fn T5.g Y5 _ 102 (by kernel_rfl)) (by omega)) (fun v s' hv => ?_) (fun _ _ x => x)
    obtain ⟨⟨h6, tk6, rfl, hk6⟩, l6, vs6, rfl, hn6, ⟨n6, hp6⟩, hI6⟩ := hv
    have F6 := F5.keeps hk6
    have N6 := news_add F5 (news_keep N5 hk6) hn6 hp6
    have hl6 : vs6.length ≤ 3 := by rw [intsAre_length hI6]; exact length_figs z
    refine add_lists_H F6 N6 (vs := ws) (ws := vs6) ⟨_, N6.get (.tail _ (.tail _ (.tail _ (.head _)))), rfl, _, rfl⟩ ⟨_, N6.get (.head _), rfl, _, rfl⟩ (fun D7 h7 hf7 F7 N7 => ?_) (by omega)
    have hD7 : D7 ≠ I := ne_of_fresh N6 (.tail _ (.head _)) hf7
    refine stLocN F7 N7 (fun h8 F8 N8 => ?_) (by kernel_rfl) (by kernel_rfl)
    try dsimp only
    refine wpAny_execs_nil ?_
    refine ⟨rfl, h8, _, _, [(D7, { cls := .type "list", data := .seq (List.toArray (ws ++ vs6)) }), (s.heap.objs.size + 1, oc)], rfl, F8, ?_, ?_, fun y h1 h2 => ?_, D7, ws ++ vs6, 0, if_pos rfl, rfl, ?_⟩
    · intro q hq
      simp only [List.mem_cons, List.cons_append, List.nil_append, List.not_mem_nil, or_false] at hq
      rcases hq with rfl | rfl | rfl | rfl
      · exact N8 _ (.tail _ (.tail _ (.head _)))
      · exact N8 _ (.tail _ (.tail _ (.tail _ (.head _))))
      · exact N8 _ (.head _)
      · exact N8 _ (.tail _ (.tail _ (.tail _ (.tail _ (.tail _ (.head _))))))
    · intro q hq
      simp only [List.mem_cons, List.not_mem_nil, or_false] at hq
      rcases hq with rfl | rfl
      · exact hD7
      · exact hoff _ (.tail _ (.head _))
    · rw [if_neg h2, if_neg h1]
      exact hm₁ y h1 h2
    · rw [take_snoc hz8]
      unfold figsOf
      rw [List.flatMap_append, ← List.append_assoc]
      exact intsAre_append hW (by simpa using hI6)
  · rintro h' tk' m' led' F' N' ⟨hm', p, ws, n, hp, rfl, hW⟩
    have e8l : ws8.length = (xs.take 8).length := intsAre_length hI8
    rw [e8l, List.take_length] at hW
    have hwl : ws.length ≤ 100 := by
      rw [intsAre_length hW]
      have h1 := length_figsOf (xs.take 8)
      have h2 : (xs.take 8).length ≤ 8 := by rw [List.length_take]; omega
      omega
    refine wpAny_execs_cons ?_
    iterate 6 ((try dsimp only); walk1)
    refine Comp1 (fun _ => true) (fun v y => ∃ f t u, v = .int f t ∧ y = .str (ps.getD f.toNat (Str.empty, Str.empty)).1 u) (cl := [(Str.ofString "strands", s.heap.objs.size + 1)]) (by kernel_rfl) (by decide +kernel) (by kernel_rfl) (by decide +kernel) (by kernel_rfl) ?_
    walk1
    refine ldLoc F' hp ?_ (by kernel_rfl) (by kernel_rfl) (by decide)
    refine List_ ?_
    refine spliced_lits _ ([10, 5, 8, 13, 15, 14, 12, 4].map .int) _ _ rfl fun vs9 tk9 hvs9 => ?_
    have hI9 := dataAre_ints hvs9
    have hl9 : vs9.length = 8 := by rw [intsAre_length hI9]; rfl
    refine newList_G F' N' (fun D9 h9 F9 N9 _ _ => ?_) (by rw [hl9]; decide)
    refine add_lists_H F9 N9 (vs := ws) (ws := vs9) ⟨_, N9.get (.tail _ (.tail _ (.head _))), rfl, _, rfl⟩ ⟨_, N9.get (.head _), rfl, _, rfl⟩ (fun D10 h10 _ F10 N10 => ?_) (by omega)
    have hIA : IntsAre (ws ++ vs9) (figsAll xs) := intsAre_append hW hI9
    refine ⟨[D10], (ws ++ vs9).length, _, src_list rfl ⟨_, N10.get (.head _), rfl, _, rfl⟩, by rw [List.length_append]; omega, fun C i v s₃ m₃ E' _ _ _ _ _ => no_ifs (v := v), ?_, ?_⟩
    · intro C i v s₃ m₃ E' hP _ hns hm hC hk
      obtain ⟨f, tf, rfl, hf⟩ := intsAre_get hIA hP
      have hfr := figsAll_range xs f (List.mem_of_getElem? hf)
      obtain ⟨q, hq⟩ : ∃ q, ps[f.toNat]? = some q := ⟨_, List.getElem?_eq_getElem (by omega)⟩
      obtain ⟨v2, hv2, D2, t2, u2, rfl, _, hpl2⟩ := paired_get hps hq
      iterate 2 ((try dsimp only); walk1)
      refine wpAny_Name (wpAny_loadName_cell (by kernel_rfl) (by kernel_rfl) (by kernel_rfl) ⟨oc, hk _ _ (N10.get (.tail _ (.tail _ (.tail _ (.tail _ (.head _)))))), hoc⟩ ?_) (by decide)
      refine wpAny_Name (wpAny_loadName_local (by kernel_rfl) (by kernel_rfl) hns hm ?_) (by decide)
      have up : ∀ b o, s.heap.get? b = some o → s₃.heap.get? b = some o := fun b o e => hk b o (F10.keep b o e)
      refine item_list (lstKept hls up) hfr.1 (by omega) (by rw [List.getElem?_toArray]; exact hv2) ?_
      iterate 1 ((try dsimp only); walk1)
      refine item_list_T (k := 0) (lstKept hpl2.isList up) (by decide) (by decide) rfl ?_
      refine ⟨⟨f, tf, t2, rfl, ?_⟩, ⟨_, _, rfl, fun _ _ e => e⟩⟩
      rw [List.getD_eq_getElem?_getD, hq]
      rfl
    · intro D11 h11 tk11 ys vsX hD11 hpl11 hlen11 hP11 hF11 hk11
      have hvx : vsX = ws ++ vs9 := by
        refine List.ext_getElem? fun j => ?_
        cases e : vsX[j]? with
        | some v => exact (hP11 j v e).symm
        | none =>
          have h1 := List.getElem?_eq_none_iff.mp e
          exact (List.getElem?_eq_none (by omega)).symm
      have hf11 : vsX.filter (fun _ => true) = vsX := List.filter_eq_self.mpr fun _ _ => rfl
      rw [hf11, hvx] at hF11
      have hS11 : StrsAre ys.toList ((figsAll xs).map fun f => (ps.getD f.toNat (Str.empty, Str.empty)).1) := strsAre_paired hIA hF11 (by
        rintro f t y ⟨f', t', u, e, rfl⟩
        injection e with e1 e2
        rw [e1]
        exact ⟨u, rfl⟩)
      refine spliced_none ?_
      refine join_list hpl11.isList hS11 (by
        have h1 : ((figsAll xs).map fun f => (ps.getD f.toNat (Str.empty, Str.empty)).1).length ≤ 200 := by
          rw [List.length_map, ← intsAre_length hIA, List.length_append]; omega
        have h2 := sum_le ((figsAll xs).map fun f => (ps.getD f.toNat (Str.empty, Str.empty)).1) (by
          intro y hy
          obtain ⟨f, _, rfl⟩ := List.mem_map.mp hy
          rw [List.getD_eq_getElem?_getD]
          cases e : ps[f.toNat]? with
          | none => exact Nat.zero_le _
          | some q => exact hp1 q (List.mem_of_getElem? e))
        have h3 : (Str.ofString "").length = 0 := by decide
        rw [h3]
        omega) (fun t12 k12 => ?_)
      exact StrEnd.of ⟨h11, _, rfl, fun b o e => hk11 b o (F10.keep b o e)⟩ rfl
end
end Mine
end
section
open PySem PySem.W PyProof.Rows PySem.Calls
set_option Elab.async false
set_option maxRecDepth 100000
set_option maxHeartbeats 1000000
set_option pp.maxSteps 4000
namespace Mine
section
variable {prog : Program} {w : World} {A : Around} {R : Result → Shared → Prop} {s : Shared}
theorem compTurn2_0 (elt t0 i0 t1 i1 : Expr) (scope : Scope) (pos : Pos) (it acc : Value) (env : Env) :
    compTurn (.ListComp elt [⟨t0, i0, [], 0⟩, ⟨t1, i1, [], 0⟩] scope pos) 0 it acc env = (do
      standAt i0.pos
      match ← pyNext it with
      | none => pure (.done .next)
      | some v =>
        letOwnedTupleGo t0 it v
        assign t0 env v
        let mut ok := true
        for c in ([] : List Expr) do
          if ok then ok ← isTrue c env (eval c env)
        if ok then
          let x ← eval i1 env
          standAt i1.pos
          let x ← foldedSetIterable i1 env x
          let _ ← runOwn (.compStart (.ListComp elt [⟨t0, i0, [], 0⟩, ⟨t1, i1, [], 0⟩] scope pos) 1 (← holding [x] (pyIter x)) acc env) env
        again (.compLoop (.ListComp elt [⟨t0, i0, [], 0⟩, ⟨t1, i1, [], 0⟩] scope pos) 0 it acc env)) := by rfl
theorem compTurn2_1 (elt t0 i0 t1 i1 : Expr) (scope : Scope) (pos : Pos) (it acc : Value) (env : Env) :
    compTurn (.ListComp elt [⟨t0, i0, [], 0⟩, ⟨t1, i1, [], 0⟩] scope pos) 1 it acc env = (do
      standAt i1.pos
      match ← pyNext it with
      | none => pure (.done .next)
      | some v =>
        letOwnedTupleGo t1 it v
        assign t1 env v
        let mut ok := true
        for c in ([] : List Expr) do
          if ok then ok ← isTrue c env (eval c env)
        if ok then
          (do let _ ← call (.builtin "list.append") [acc, ← eval elt env])
        again (.compLoop (.ListComp elt [⟨t0, i0, [], 0⟩, ⟨t1, i1, [], 0⟩] scope pos) 1 it acc env)) := by rfl

theorem loop2_1 {elt t0 i0 t1 i1 : Expr} {scope : Scope} {pos : Pos} {it acc : Value} {env : Env} (I : Nat → Shared → Prop)
    (turn : ∀ n s, I n s → wpAny (model prog w) A (pyNext it) (fun r s₁ => match r with
      | none => R (.ok .next) s₁
      | some v => wpAny (model prog w) A (assign t1 env v) (fun _ s₂ =>
          wpAny (model prog w) A (eval elt env) (fun x s₄ =>
              wpAny (model prog w) A (call (.builtin "list.append") [acc, x]) (fun _ s₅ => ∃ m, m < n ∧ I m s₅) (notedBy (model prog w) A env fun e s' => R (.error e) s') s₄) (notedBy (model prog w) A env fun e s' => R (.error e) s') s₂)
            (notedBy (model prog w) A env fun e s' => R (.error e) s') s₁) (notedBy (model prog w) A env fun e s' => R (.error e) s') s)
    (n : Nat) (h : I n s) (ht : ∀ v, letOwnedTupleGo t1 it v = pure () := by intro _; rfl) :
    codeAny (model prog w) A (.compLoop (.ListComp elt [⟨t0, i0, [], 0⟩, ⟨t1, i1, [], 0⟩] scope pos) 1 it acc env) R s := by
  refine codeAny_loop rfl I (fun n s hI => ?_) n h
  show wpAny _ A ((compTurn (.ListComp elt [⟨t0, i0, [], 0⟩, ⟨t1, i1, [], 0⟩] scope pos) 1 it acc env).onRaise (fun x => do noteFrame x env; theTreesLotGoes x)) _ _ s
  refine wpAny_noted ?_
  rw [compTurn2_1]
  refine wpAny_bind (wpAny_standAt (wpAny_bind (wpAny_mono (turn n s hI) (fun r s₁ h₁ => ?_) fun _ _ h' => h')))
  cases r with
  | none => exact wpAny_pure h₁
  | some v =>
    refine wpAny_bind (wpAny_of_eq (ht v) ?_)
    refine wpAny_bind (wpAny_mono h₁ (fun _ s₂ h₂ => wpAny_bind (wpAny_pure ?_)) fun _ _ h' => h')
    exact wpAny_bind (wpAny_bind (wpAny_mono h₂ (fun x s₄ h₄ => wpAny_bind (wpAny_mono h₄ (fun _ s₅ h₅ => wpAny_pure (wpAny_pure ⟨rfl, h₅⟩)) fun _ _ h' => h')) fun _ _ h' => h'))

theorem loop2_0 {elt t0 i0 t1 i1 : Expr} {scope : Scope} {pos : Pos} {it acc : Value} {env : Env} (I : Nat → Shared → Prop)
    (turn : ∀ n s, I n s → wpAny (model prog w) A (pyNext it) (fun r s₁ => match r with
      | none => R (.ok .next) s₁
      | some v => wpAny (model prog w) A (assign t0 env v) (fun _ s₂ =>
          wpAny (model prog w) A (eval i1 env) (fun x s₃ => wpAny (model prog w) A (pyIter x) (fun it' s₄ =>
              wpAny (model prog w) A (runOwn (.compStart (.ListComp elt [⟨t0, i0, [], 0⟩, ⟨t1, i1, [], 0⟩] scope pos) 1 it' acc env) env) (fun _ s₅ => ∃ m, m < n ∧ I m s₅) (notedBy (model prog w) A env fun e s' => R (.error e) s') s₄) (notedBy (model prog w) A env fun e s' => R (.error e) s') s₃) (notedBy (model prog w) A env fun e s' => R (.error e) s') s₂)
            (notedBy (model prog w) A env fun e s' => R (.error e) s') s₁) (notedBy (model prog w) A env fun e s' => R (.error e) s') s)
    (n : Nat) (h : I n s) (ht : ∀ v, letOwnedTupleGo t0 it v = pure () := by intro _; rfl) (hs : ∀ x, foldedSetIterable i1 env x = pure x := by intro _; rfl) :
    codeAny (model prog w) A (.compLoop (.ListComp elt [⟨t0, i0, [], 0⟩, ⟨t1, i1, [], 0⟩] scope pos) 0 it acc env) R s := by
  refine codeAny_loop rfl I (fun n s hI => ?_) n h
  show wpAny _ A ((compTurn (.ListComp elt [⟨t0, i0, [], 0⟩, ⟨t1, i1, [], 0⟩] scope pos) 0 it acc env).onRaise (fun x => do noteFrame x env; theTreesLotGoes x)) _ _ s
  refine wpAny_noted ?_
  rw [compTurn2_0]
  refine wpAny_bind (wpAny_standAt (wpAny_bind (wpAny_mono (turn n s hI) (fun r s₁ h₁ => ?_) fun _ _ h' => h')))
  cases r with
  | none => exact wpAny_pure h₁
  | some v =>
    refine wpAny_bind (wpAny_of_eq (ht v) ?_)
    refine wpAny_bind (wpAny_mono h₁ (fun _ s₂ h₂ => wpAny_bind (wpAny_pure ?_)) fun _ _ h' => h')
    dsimp only
    rw [if_pos rfl]
    refine wpAny_bind (wpAny_mono h₂ (fun x s₃ h₃ => ?_) fun _ _ h' => h')
    refine wpAny_bind (wpAny_standAt (wpAny_bind (wpAny_of_eq (hs x) ?_)))
    refine wpAny_bind (wpAny_holding (wpAny_mono h₃ (fun it' s₄ h₄ => ?_) fun _ _ h' => h'))
    exact wpAny_bind (wpAny_mono h₄ (fun _ s₅ h₅ => wpAny_pure ⟨rfl, h₅⟩) fun _ _ h' => h')

theorem start2_1 {elt t0 i0 t1 i1 : Expr} {scope : Scope} {pos : Pos} {it acc : Value} {env : Env}
    (h0 : codeAny (model prog w) A (.compLoop (.ListComp elt [⟨t0, i0, [], 0⟩, ⟨t1, i1, [], 0⟩] scope pos) 1 it acc env) R s)
    (h : wpAny (model prog w) A (pyIter it) (fun it' s' => codeAny (model prog w) A (.compLoop (.ListComp elt [⟨t0, i0, [], 0⟩, ⟨t1, i1, [], 0⟩] scope pos) 1 it' acc env) R s')
      (notedBy (model prog w) A env fun x s' => R (.error x) s') s) :
    codeAny (model prog w) A (.compStart (.ListComp elt [⟨t0, i0, [], 0⟩, ⟨t1, i1, [], 0⟩] scope pos) 1 it acc env) R s := by
  refine codeAny_of_tree ?_
  show wpAny _ _ ((compStart (.ListComp elt [⟨t0, i0, [], 0⟩, ⟨t1, i1, [], 0⟩] scope pos) 1 it acc env).onRaise (fun x => do noteFrame x env; standAt theWindowsPlace)) _ _ s
  refine wpAny_notedAt ?_
  unfold compStart
  show wpAny _ _ (ask >>= _) _ _ s
  refine wpAny_bind (wpAny_askSetting (wpAny_ite ?_))
  split
  · first
      | exact wpAny_bind (wpAny_pure (wpAny_pure (And.intro rfl h0)))
      | exact wpAny_pure (And.intro rfl h0)
  · first
      | exact wpAny_bind (wpAny_rule (wpAny_bind (wpAny_standAt (wpAny_bind (wpAny_mono h (fun it' s' h' => wpAny_pure (And.intro rfl h')) fun _ _ x => x)))))
      | (refine wpAny_bind (wpAny_rule ?_); show wpAny _ _ (standAt i1.pos >>= _) _ _ s; exact wpAny_bind (wpAny_standAt (wpAny_bind (wpAny_mono h (fun it' s' h' => wpAny_pure (And.intro rfl h')) fun _ _ x => x))))

theorem inner2 {t0 i0 i1 : Expr} {xd : Str} {pd pd' : Pos} {scope : Scope} {pos : Pos} {I D : Addr} {fp : List Addr} {St : Nat → Heap → Prop} {cenv : Env} {m : Str → Option Value} {y : Str} {ys : Array Value} {zs : List Str}
    (W : Walks prog w A I fp [I] y.cps.size (SignAt y) St) (hxd : cenv.kindOf xd = some .local) (hkf : cenv.scope.kind = .function) (hdb : (xd == ("__debug__" : Str)) = false)
    (hDC : D ≠ cenv.locals) (hDf : D ∉ fp) (hCf : cenv.locals ∉ fp) (hst : St 0 s.heap) (hacc : s.heap.PlainList D ys) (hn : s.heap.Ns cenv.locals m) (hys : StrsAre ys.toList zs) (hz : zs.length + y.cps.size ≤ 16000000)
    (hR : ∀ h' tk m' (ys' : Array Value), h'.Ns cenv.locals m' → h'.PlainList D ys' → StrsAre ys'.toList (zs ++ y.cps.toList.map ch) → (∀ b o, b ≠ cenv.locals → b ≠ I → b ≠ D → s.heap.get? b = some o → h'.get? b = some o) → R (.ok .next) { s with heap := h', toks := tk }) :
    codeAny (model prog w) A (.compLoop (.ListComp (.Name xd pd) [⟨t0, i0, [], 0⟩, ⟨.Name xd pd', i1, [], 0⟩] scope pos) 1 (.ref I) (.ref D) cenv) R s := by
  have hp : (cenv.scope.kind == .class || (cenv.scope.kind == .module && cenv.locals != cenv.globals)) = false := by rw [hkf]; rfl
  have hIf : I ∈ fp := W.sub I (.head _)
  have hDI : D ≠ I := fun e => hDf (e ▸ hIf)
  have hCI : cenv.locals ≠ I := fun e => hCf (e ▸ hIf)
  refine loop2_1 (fun k s' => ∃ h' tk m' ys' j, s' = { s with heap := h', toks := tk } ∧ St j h' ∧ h'.PlainList D ys' ∧ h'.Ns cenv.locals m' ∧ StrsAre ys'.toList (zs ++ (y.cps.toList.take j).map ch) ∧ j ≤ y.cps.size ∧ k = y.cps.size + 1 - j ∧
      (∀ b o, b ≠ cenv.locals → b ≠ I → b ≠ D → s.heap.get? b = some o → h'.get? b = some o)) ?_ (y.cps.size + 1)
    ⟨s.heap, s.toks, m, ys, 0, rfl, hst, hacc, hn, by simpa using hys, Nat.zero_le _, rfl, fun _ _ _ _ _ e => e⟩
  rintro k s' ⟨H, tk, m', ys', j, rfl, hst', hacc', hn', hS', hj, rfl, hk⟩
  by_cases hlt : j < y.cps.size
  · refine W.item j _ _ _ hlt hst' fun v h₁ tk₁ hPv hst₁ hk₁ => ?_
    refine wpAny_assign_Name (wpAny_storeName_local hxd (hn'.at' fun o e => hk₁ _ o (by simpa using hCI) e) (fun h₂ hn₂ hs₂ => ?_) hp)
    refine wpAny_Name (wpAny_loadName_local hkf hxd hn₂ (if_pos rfl) ?_) hdb
    obtain ⟨c, u, hc, rfl⟩ := hPv
    have hc' : y.cps.toList[j]? = some c := by simpa using hc
    have hacc₂ : h₂.PlainList D ys' := hacc'.at fun o e => hs₂.extBut _ _ hDC (hk₁ _ o (by simpa using hDI) e)
    have hl1 := strsAre_length hS'
    refine wpAny_list_append_plain (hsz := by
      have e1 : ys'.toList.length = ys'.size := by simp
      rw [List.length_append, List.length_map, List.length_take, e1] at hl1
      have e2 : y.cps.toList.length = y.cps.size := by simp
      rw [sizeLine_eq]; omega) hacc₂ fun h₅ hl₅ hs₅ => ?_
    refine ⟨y.cps.size + 1 - (j + 1), by omega, h₅, _, _, ys'.push (.str ⟨#[c]⟩ u), j + 1, rfl, ?_, hl₅, hn₂.sameBut hs₅ (Ne.symm hDC), ?_, hlt, rfl, ?_⟩
    · exact W.frame _ _ _ hst₁ fun b hb o e => hs₅.extBut b o (fun q => hDf (q ▸ hb)) (hs₂.extBut b o (fun q => hCf (q ▸ hb)) e)
    · rw [take_snoc hc', List.map_append, ← List.append_assoc, Array.toList_push]
      exact strsAre_append hS' (.cons _ _ .nil)
    · intro b o h1 h2 h3 e
      exact hs₅.extBut b o h3 (hs₂.extBut b o h1 (hk₁ b o (by simpa using h2) (hk b o h1 h2 h3 e)))
  · have hin : j = y.cps.size := by omega
    subst hin
    refine W.done _ _ _ hst' fun h₁ tk₁ hk₁ => ?_
    have e1 : y.cps.toList.take y.cps.size = y.cps.toList := by rw [← Array.length_toList, List.take_length]
    rw [e1] at hS'
    exact hR h₁ tk₁ m' ys' (hn'.at' fun o e => hk₁ _ o (by simpa using hCI) e) (hacc'.at fun o e => hk₁ _ o (by simpa using hDI) e) hS' fun b o h1 h2 h3 e => hk₁ b o (by simpa using h2) (hk b o h1 h2 h3 e)

theorem outer2 {i0 i1 : Expr} {xc xd : Str} {pc pd pd' : Pos} {scope : Scope} {pos : Pos} {I D : Addr} {fp : List Addr} {n : Nat} {P : Nat → Value → Prop} {St : Nat → Heap → Prop} {cenv : Env} {m : Str → Option Value} {G : Value → Str}
    (hh : A.handled = none) (W : Walks prog w A I fp [I] n P St) (hxc : cenv.kindOf xc = some .local) (hxd : cenv.kindOf xd = some .local) (hkf : cenv.scope.kind = .function) (hdb : (xd == ("__debug__" : Str)) = false)
    (hDC : D ≠ cenv.locals) (hDf : D ∉ fp) (hCf : cenv.locals ∉ fp) (hlive : ∀ i h, St i h → ∃ o, h.get? I = some o) (hfp : ∀ b ∈ fp, b ≠ I → ∃ o, s.heap.get? b = some o) (hst : St 0 s.heap) (hacc : s.heap.PlainList D #[]) (hn : s.heap.Ns cenv.locals m) (hG : ∀ i v, P i v → (G v).cps.size ≤ 10) (hn1 : n ≤ 1000000)
    (hi1 : ∀ i v (s₂ : Shared) m₂ E', P i v → s₂.heap.Ns cenv.locals m₂ → m₂ xc = some v → (∀ b o, b ≠ cenv.locals → b ≠ I → b ≠ D → s.heap.get? b = some o → s₂.heap.get? b = some o) →
      wpAny (model prog w) A (eval i1 cenv) (fun y s₃ => (∃ t, y = .str (G v) t) ∧ Keeps s₂ s₃) E' s₂)
    (hs : ∀ x, foldedSetIterable i1 cenv x = pure x)
    (hR : ∀ h' tk m' ys (vs : List Value), h'.Ns cenv.locals m' → h'.PlainList D ys → vs.length = n → (∀ j v, vs[j]? = some v → P j v) → StrsAre ys.toList (vs.flatMap fun v => (G v).cps.toList.map ch) →
      (∀ b o, b ≠ cenv.locals → b ≠ I → b ≠ D → s.heap.get? b = some o → h'.get? b = some o) → R (.ok .next) { s with heap := h', toks := tk }) :
    codeAny (model prog w) A (.compLoop (.ListComp (.Name xd pd) [⟨.Name xc pc, i0, [], 0⟩, ⟨.Name xd pd', i1, [], 0⟩] scope pos) 0 (.ref I) (.ref D) cenv) R s := by
  have hp : (cenv.scope.kind == .class || (cenv.scope.kind == .module && cenv.locals != cenv.globals)) = false := by rw [hkf]; rfl
  have hIf : I ∈ fp := W.sub I (.head _)
  have hDI : D ≠ I := fun e => hDf (e ▸ hIf)
  have hCI : cenv.locals ≠ I := fun e => hCf (e ▸ hIf)
  refine loop2_0 (fun k s' => ∃ h' tk m' ys, ∃ vs : List Value, s' = { s with heap := h', toks := tk } ∧ St vs.length h' ∧ h'.PlainList D ys ∧ h'.Ns cenv.locals m' ∧ (∀ j v, vs[j]? = some v → P j v) ∧
      StrsAre ys.toList (vs.flatMap fun v => (G v).cps.toList.map ch) ∧ vs.length ≤ n ∧ k = n + 1 - vs.length ∧
      (∀ b o, b ≠ cenv.locals → b ≠ I → b ≠ D → s.heap.get? b = some o → h'.get? b = some o)) ?_ (n + 1)
    ⟨s.heap, s.toks, m, #[], [], rfl, hst, hacc, hn, by simp, .nil, Nat.zero_le _, rfl, fun _ _ _ _ _ e => e⟩ (hs := hs)
  rintro k s' ⟨H, tk, m', ys, vs, rfl, hst', hacc', hn', hP, hS, hi, rfl, hk⟩
  by_cases hlt : vs.length < n
  · refine W.item vs.length _ _ _ hlt hst' fun v h₁ tk₁ hPv hst₁ hk₁ => ?_
    refine wpAny_assign_Name (wpAny_storeName_local hxc (hn'.at' fun o e => hk₁ _ o (by simpa using hCI) e) (fun h₂ hn₂ hs₂ => ?_) hp)
    have up₂ : ∀ b o, b ≠ cenv.locals → b ≠ I → H.get? b = some o → h₂.get? b = some o := fun b o h1 h2 e => hs₂.extBut b o h1 (hk₁ b o (by simpa using h2) e)
    have hst₂ : St (vs.length + 1) h₂ := W.frame _ _ _ hst₁ fun b hb o e => hs₂.extBut b o (fun h => hCf (h ▸ hb)) e
    refine wpAny_mono (hi1 vs.length v _ _ _ hPv hn₂ (by simp) (fun b o h1 h2 h3 e => up₂ b o h1 h2 (hk b o h1 h2 h3 e))) (fun x s₃ h₃ => ?_) fun _ _ e => e
    obtain ⟨⟨t, rfl⟩, h₃, tk₃, rfl, hk₃⟩ := h₃
    refine wpAny_mono (src_str (prog := prog) (w := w) (A := A) hh) (fun it' s₄ h₄ => ?_) fun _ _ e => e
    obtain ⟨I1, fp1, St1, oI1, rfl, W1, hst1, hI1, _, hfs1, _, rfl⟩ := h₄
    have hst₄ : St (vs.length + 1) (h₃.push oI1) := W.frame _ _ _ hst₂ fun b _ o e => Heap.get?_push_of_some _ (hk₃ b o e)
    have hacc₄ : (h₃.push oI1).PlainList D ys := hacc'.at fun o e => Heap.get?_push_of_some _ (hk₃ _ o (up₂ D o hDC hDI e))
    have hn₄ : (h₃.push oI1).Ns cenv.locals _ := (hn₂.keeps hk₃).keeps fun b o e => Heap.get?_push_of_some _ e
    have hacc₃ : h₃.PlainList D ys := hacc'.at fun o e => hk₃ _ o (up₂ D o hDC hDI e)
    have hn₃ := hn₂.keeps hk₃
    dsimp only at hI1 hst1
    have hf1 : ∀ b ∈ fp1, b = I1 := fun b hb => (hfs1 b hb).resolve_right (by simp)
    have hDI1 : D ≠ I1 := by
      obtain ⟨_, e⟩ := hacc₃
      rw [hI1]; exact Nat.ne_of_lt (Heap.lt_size e)
    have hCI1 : cenv.locals ≠ I1 := by rw [hI1]; exact Nat.ne_of_lt hn₃.lt
    have hfI1 : ∀ b ∈ fp, b ≠ I1 := fun b hb => by
      have : ∃ o, h₃.get? b = some o := by
        by_cases hbI : b = I
        · obtain ⟨o, ho⟩ := hlive _ _ hst₂
          exact ⟨o, hk₃ _ _ (hbI ▸ ho)⟩
        · obtain ⟨o, ho⟩ := hfp b hb hbI
          have hbC : b ≠ cenv.locals := fun e => hCf (e ▸ hb)
          have hbD : b ≠ D := fun e => hDf (e ▸ hb)
          exact ⟨o, hk₃ _ _ (up₂ b o hbC hbI (hk b o hbC hbI hbD ho))⟩
      obtain ⟨o, ho⟩ := this
      rw [hI1]; exact Nat.ne_of_lt (Heap.lt_size ho)
    have hl1 := strsAre_length hS
    have hbound : (vs.flatMap fun v => (G v).cps.toList.map ch).length ≤ 10 * vs.length := by
      have key : ∀ (us : List Value), (∀ v ∈ us, (G v).cps.size ≤ 10) → (us.flatMap fun v => (G v).cps.toList.map ch).length ≤ 10 * us.length := by
        intro us
        induction us with
        | nil => intro _; exact Nat.le_refl _
        | cons u us ih =>
          intro hu
          rw [List.flatMap_cons, List.length_append, List.length_map, List.length_cons, Array.length_toList]
          have h1 := hu u (.head _)
          have h2 := ih fun v hv => hu v (.tail _ hv)
          omega
      refine key vs fun v hv => ?_
      obtain ⟨j, hj⟩ := List.getElem?_of_mem hv
      exact hG j v (hP j v hj)
    have hGv := hG _ _ hPv
    refine wpAny_runOwn ?_
    have loop : ∀ (s₅ : Shared), s₅ = { s with heap := h₃.push oI1, toks := tk₃ } → codeAny (model prog w) A (.compLoop (.ListComp (.Name xd pd) [⟨.Name xc pc, i0, [], 0⟩, ⟨.Name xd pd', i1, [], 0⟩] scope pos) 1 (.ref I1) (.ref D) cenv)
        (fun r s' => match r with | .ok f => (fun _ s₅ => ∃ m, m < n + 1 - vs.length ∧ ∃ h' tk m' ys, ∃ vs : List Value, s₅ = { s with heap := h', toks := tk } ∧ St vs.length h' ∧ h'.PlainList D ys ∧ h'.Ns cenv.locals m' ∧ (∀ j v, vs[j]? = some v → P j v) ∧
      StrsAre ys.toList (vs.flatMap fun v => (G v).cps.toList.map ch) ∧ vs.length ≤ n ∧ m = n + 1 - vs.length ∧
      (∀ b o, b ≠ cenv.locals → b ≠ I → b ≠ D → s.heap.get? b = some o → h'.get? b = some o)) f s' | .error e => cameBackBy (model prog w) A cenv (notedBy (model prog w) A cenv fun e s' => R (.error e) s') e s') s₅ := by
      rintro s₅ rfl
      refine inner2 W1 hxd hkf hdb hDC (fun hb => hDI1 (hf1 _ hb)) (fun hb => hCI1 (hf1 _ hb)) hst1 hacc₄ hn₄ hS (by omega) ?_
      intro h₆ tk₆ m₆ ys₆ hn₆ hacc₆ hS₆ hk₆
      refine ⟨n + 1 - (vs.length + 1), by omega, h₆, tk₆, m₆, ys₆, vs ++ [v], rfl, ?_, hacc₆, hn₆, ?_, ?_, by rw [List.length_append, List.length_singleton]; exact hlt, by rw [List.length_append, List.length_singleton], ?_⟩
      · rw [List.length_append, List.length_singleton]
        exact W.frame _ _ _ hst₄ fun b hb o e => hk₆ b o (fun q => hCf (q ▸ hb)) (hfI1 b hb) (fun q => hDf (q ▸ hb)) e
      · intro j u hj
        rcases Nat.lt_trichotomy j vs.length with h | h | h
        · exact hP j u (by rwa [List.getElem?_append_left h] at hj)
        · subst h; simp at hj; subst hj; exact hPv
        · have hnone : (vs ++ [v])[j]? = none := List.getElem?_eq_none (by rw [List.length_append, List.length_singleton]; omega)
          rw [hnone] at hj; cases hj
      · rw [List.flatMap_append]
        simpa using hS₆
      · intro b o h1 h2 h3 e
        have e3 : h₃.get? b = some o := hk₃ b o (up₂ b o h1 h2 (hk b o h1 h2 h3 e))
        exact hk₆ b o h1 (by rw [hI1]; exact Nat.ne_of_lt (Heap.lt_size e3)) h3 (Heap.get?_push_of_some _ e3)
    refine start2_1 (loop _ rfl) (W1.self 0 _ _ _ hst1 (loop _ rfl))
  · have hin : vs.length = n := by omega
    refine W.done _ _ _ (hin ▸ hst') fun h₁ tk₁ hk₁ => ?_
    exact hR h₁ tk₁ m' ys vs (hn'.at' fun o e => hk₁ _ o (by simpa using hCI) e) (hacc'.at fun o e => hk₁ _ o (by simpa using hDI) e) hin hP hS fun b o h1 h2 h3 e => hk₁ b o (by simpa using h2) (hk b o h1 h2 h3 e)
end
end Mine
end
section
open PySem PySem.W PyProof.Rows PySem.Calls
set_option Elab.async false
set_option maxRecDepth 100000
set_option maxHeartbeats 1000000
set_option pp.maxSteps 4000
namespace Mine
section
variable {prog : Program} {w : World} {A : Around} {E : Value → Shared → Prop} {s : Shared} {env : Env}
theorem Comp2 {i0 i1 : Expr} {xc xd : Str} {pc pd pd' : Pos} {scope : Scope} {cl : List (Str × Addr)} {pos : Pos} {Q : Value → Shared → Prop} (G : Value → Str) (hh : A.handled = none)
    (hclos : closureFor scope env = pure cl) (hcell : ∀ y ∈ scope.names, y.2 ≠ .cell) (hkind : scope.kind = .function)
    (hnames : ∀ y ∈ scope.names, y.2 = .local → scope.names.lookup y.1 = some .local) (hxc : scope.names.lookup xc = some .local) (hxd : scope.names.lookup xd = some .local) (hdb : (xd == ("__debug__" : Str)) = false)
    (h : wpAny (model prog w) A (eval i0 env) (fun xv s₁ => ∃ sl n P, Src prog w A E xv s₁ sl n P ∧ n ≤ 1000000 ∧ (∀ b ∈ sl, ∃ o, s₁.heap.get? b = some o) ∧ (∀ i v, P i v → (G v).cps.size ≤ 10) ∧
      (∀ C i v s₃ m₃ E', P i v → s₃.heap.Ns C m₃ → m₃ xc = some v → (∀ b o, s₁.heap.get? b = some o → s₃.heap.get? b = some o) →
        wpAny (model prog w) A (eval i1 (compEnvC scope cl C env)) (fun y s₄ => (∃ t, y = .str (G v) t) ∧ Keeps s₃ s₄) E' s₃) ∧
      (∀ D h' tk ys (vs : List Value), s₁.heap.get? D = none → h'.PlainList D ys → vs.length = n → (∀ j v, vs[j]? = some v → P j v) → StrsAre ys.toList (vs.flatMap fun v => (G v).cps.toList.map ch) →
        (∀ b o, s₁.heap.get? b = some o → h'.get? b = some o) → Q (.ref D) { s₁ with heap := h', toks := tk })) E s)
    (hs0 : ∀ x, foldedSetIterable i0 env x = pure x := by intro _; rfl) (hs1 : ∀ C x, foldedSetIterable i1 (compEnvC scope cl C env) x = pure x := by intro _ _; rfl) :
    wpAny (model prog w) A (eval (.ListComp (.Name xd pd) [⟨.Name xc pc, i0, [], 0⟩, ⟨.Name xd pd', i1, [], 0⟩] scope pos) env) Q E s := by
  rw [eval_ListComp]
  refine wpAny_comprehension_free (use := none) rfl hs0 hclos hkind hnames (wpAny_mono h (fun xv s₁ h₁ => ?_) fun _ _ e => e)
  obtain ⟨sl, n, P, hsrc, hn, hsl, hG, hel, hfin⟩ := h₁
  refine wpAny_mono hsrc (fun it s₂ h₂ => ?_) fun _ _ e => e
  obtain ⟨I, fp, St, oI, rfl, W, hst, hI, hfp, hfs, hlive, rfl⟩ := h₂
  obtain ⟨s₂, hs₂⟩ : ∃ s₂ : Shared, s₂ = { s₁ with heap := s₁.heap.push oI } := ⟨_, rfl⟩
  have hh2 : s₂.heap = s₁.heap.push oI := by rw [hs₂]
  rw [← hs₂]
  have hst' : St 0 s₂.heap := by rw [hh2]; exact hst
  have hfp' : ∀ b ∈ fp, b < s₂.heap.objs.size := by rw [hh2]; exact hfp
  refine wpAny_newObj_type (wpAny_newFunctionEnv hcell (by intro y hy; simp at hy) (fun h₁ hns₁ hsb₁ => ?_) hkind)
  dsimp only at hns₁ hsb₁ ⊢
  generalize hH2 : s₂.heap.push { cls := .type "list", dict := none, data := .seq ([] : List Value).toArray } = H2 at hns₁ hsb₁ ⊢
  have hC : H2.objs.size = s₂.heap.objs.size + 1 := by rw [← hH2, Heap.size_push]
  have hDC : s₂.heap.objs.size ≠ H2.objs.size := by rw [hC]; exact Nat.ne_of_lt (Nat.lt_succ_self _)
  have below : ∀ b, b < s₂.heap.objs.size → b ≠ H2.objs.size ∧ b ≠ s₂.heap.objs.size := fun b hb => ⟨by rw [hC]; exact Nat.ne_of_lt (Nat.lt_succ_of_lt hb), Nat.ne_of_lt hb⟩
  have hDf : s₂.heap.objs.size ∉ fp := fun hm => Nat.lt_irrefl _ (hfp' _ hm)
  have hCf : H2.objs.size ∉ fp := fun hm => by have := hfp' _ hm; rw [hC] at this; exact Nat.lt_irrefl _ (Nat.lt_of_succ_lt this)
  have old : ∀ b o, s₂.heap.get? b = some o → h₁.get? b = some o := fun b o e => hsb₁.extBut b o (below b (Heap.lt_size e)).1 (Heap.get?_push_of_some _ (hH2 ▸ Heap.get?_push_of_some _ e))
  have hacc : h₁.PlainList s₂.heap.objs.size #[] := ⟨_, hsb₁.extBut _ _ hDC (Heap.get?_push_of_some _ (hH2 ▸ Heap.get?_push_size _ rfl))⟩
  have hst₁ : St 0 h₁ := W.frame _ _ _ hst' fun b _ o e => old b o e
  have up : ∀ b o, s₁.heap.get? b = some o → s₂.heap.get? b = some o := fun b o e => by rw [hh2]; exact Heap.get?_push_of_some _ e
  have fresh : ∀ a, s₂.heap.objs.size ≤ a → s₂.heap.get? a = none := fun a ha => by
    cases e : s₂.heap.get? a with
    | none => rfl
    | some o' => exact absurd (Heap.lt_size e) (Nat.not_lt.mpr ha)
  have bI : ∀ b o, s₁.heap.get? b = some o → b ≠ I := fun b o e q => by
    rw [q, hI] at e
    exact absurd (Heap.lt_size e) (Nat.lt_irrefl _)
  have loop : ∀ s₃ : Shared, s₃ = { s₂ with heap := h₁, toks := s₂.toks + ([] : List (Str × Value)).length } →
      codeAny (model prog w) A (.compLoop (.ListComp (.Name xd pd) [⟨.Name xc pc, i0, [], 0⟩, ⟨.Name xd pd', i1, [], 0⟩] scope pos) 0 (.ref I) (.ref s₂.heap.objs.size) (compEnvC scope cl H2.objs.size env))
        (compPost (model prog w) A E none Q (.ref s₂.heap.objs.size) H2.objs.size) s₃ := by
    rintro s₃ rfl
    refine outer2 (G := G) (cenv := compEnvC scope cl H2.objs.size env) hh W (lookup_relabel_local hxc) (lookup_relabel_local hxd) (by simp [compEnvC, relabel, hkind]) hdb hDC hDf hCf hlive ?_ hst₁ hacc hns₁ hG hn ?_ (hs1 _) ?_
    · intro b hb hbI
      obtain ⟨o, ho⟩ := hsl b ((hfs b hb).resolve_left hbI)
      exact ⟨o, old b o (up b o ho)⟩
    · intro i v s₃ m₃ E' hP hn₃ hm₃ hk
      exact hel _ i v s₃ m₃ E' hP hn₃ hm₃ fun b o e => hk b o (below b (Heap.lt_size (up b o e))).1 (bI b o e) (below b (Heap.lt_size (up b o e))).2 (old b o (up b o e))
    · intro h' tk m' ys vs hn' hpl hlen hP hS hk
      refine ⟨m', hn', fun h'' hs'' => ?_⟩
      subst hs₂
      refine hfin _ h'' tk ys vs ?_ (hpl.extBut hs''.extBut hDC) hlen hP hS fun b o e => ?_
      · cases e : s₁.heap.get? ({ s₁ with heap := s₁.heap.push oI } : Shared).heap.objs.size with
        | none => rfl
        | some o => exact absurd (Heap.lt_size (up _ _ e)) (Nat.lt_irrefl _)
      · have hb := below b (Heap.lt_size (up b o e))
        exact hs''.extBut b o hb.1 (hk b o hb.1 (bI b o e) hb.2 (old b o (up b o e)))
  exact codeAny_compStart_list (loop _ rfl) (W.self 0 _ _ _ hst₁ (loop _ rfl))
end
end Mine
end
section
open PySem PySem.W PyProof.Rows PySem.Calls
set_option Elab.async false
set_option maxRecDepth 100000
set_option maxHeartbeats 1000000
set_option pp.maxSteps 4000
namespace Mine
def FoldsAt (w : World) (h : Heap) (D : Addr) (f : Str → Option Str) : Prop := ∃ F, h.MapOf (strKind pw w) D F ∧ ∀ x, match f x with
  | some y => ∃ u, F x = some (.str y u)
  | none => F x = none
theorem FoldsAt.up {w : World} {h h' : Heap} {D : Addr} {f : Str → Option Str} (x : FoldsAt w h D f) (hk : ∀ b o, h.get? b = some o → h'.get? b = some o) : FoldsAt w h' D f := by
  obtain ⟨F, ⟨o, es, ep, ho, r⟩, hF⟩ := x
  exact ⟨F, ⟨o, es, ep, hk _ _ ho, r⟩, hF⟩
def fold1 (f : Str → Option Str) (c : Nat) : Str := (f (ch c)).getD (ch c)
def foldV (f : Str → Option Str) : Value → Str
  | .str x _ => (f x).getD x
  | _ => Str.empty
def dueC (f : Str → Option Str) (cs : List Nat) (k z : Int) : List Nat := if 8 ≤ k then fitC cs (if k = 31 then z else k - 10) else cs.flatMap fun c => (fold1 f c).cps.toList
section
variable {w : World} {mg mb : Str → Option Value} {mean : ExcName → Option Value} {s : Shared} {a : Addr} {d : Nat} {fr : Option (List Env)} {gs : Option (List Code)} {un : Nat}
theorem due_call {l ls D : Addr} {vs : List Value} {cs : List Nat} {k z : Int} {t u : Tok} {f : Str → Option Str} (T : Top Q (looseW Q LS) mean mg mb s.heap) (Y : YP w s.heap) (hm : mg (fnName 17) = some (.ref a)) (hd : d < 350)
    (hl : s.heap.IsList l (List.toArray vs)) (hS : StrsAre vs (cs.map ch)) (hn : cs.length ≤ 1000000) (hst : s.heap.IsList ls #[.int k t, .int z u]) (hf : FoldsAt w s.heap D f) (hD : (D == sysModules) = false) (hf10 : ∀ c, (fold1 f c).cps.size ≤ 10) :
   wpAny (model pw w) ⟨none, d, fr, gs, un⟩ (PySem.call (.ref a) [.ref l, .ref ls, .ref D]) (FitEnd s l vs ((dueC f cs k z).map ch)) (fun _ _ => False) s := by
  obtain ⟨o, pm, cd, doc, ho, hdt, hcd⟩ := fn_at T 17 hm
  refine wpAny_call ?_
  refine call_cellsN_ret (binds := [("signs", .ref l), ("step", .ref ls), ("folds", .ref D)]) (depth_ok (show d < 600 by omega)) ho hdt T.nolimit hcd (by kernel_rfl) (by
    intro y hy; simp only [List.mem_cons, List.not_mem_nil, or_false] at hy
    rcases hy with rfl | rfl | rfl
    · exact .inl (by kernel_rfl)
    · exact .inl (by kernel_rfl)
    · exact .inr ⟨by kernel_rfl, by kernel_rfl⟩) (by decide +kernel) ?_ (by kernel_rfl) (by kernel_rfl) (by kernel_rfl)
  intro h₁ tk cells F N X
  have hcf : cellsFrom (s.heap.objs.size + 1) (fnScope 17).names [] = [(Str.ofString "folds", s.heap.objs.size + 1)] := by kernel_rfl
  rw [hcf] at X
  obtain ⟨oc, rfl, hoc⟩ := X.one
  have hl₁ := F.lst hst
  have hm1 : bindL (envOfC (fnName 17) (fnScope 17) s.heap.objs.size a cd).kindOf [(Str.ofString "signs", .ref l), (Str.ofString "step", .ref ls), (Str.ofString "folds", .ref D)] (fun _ => none) (Str.ofString "signs") = some (.ref l) := by kernel_rfl
  have hm2 : bindL (envOfC (fnName 17) (fnScope 17) s.heap.objs.size a cd).kindOf [(Str.ofString "signs", .ref l), (Str.ofString "step", .ref ls), (Str.ofString "folds", .ref D)] (fun _ => none) (Str.ofString "step") = some (.ref ls) := by kernel_rfl
  w_on
  w_top on
  with_unfolding_all refine wpAny_execs_cons ?_
  iterate 3 ((try dsimp only); walk1)
  refine ldLoc F hm2 ?_ (by kernel_rfl) (by kernel_rfl) (by decide)
  iterate 6 ((try dsimp only); walk1)
  · rename 8 ≤ k => hk
    refine wpAny_execs_cons ?_
    iterate 2 ((try dsimp only); walk1)
    refine ld_glob T F.keep (mg_fn T.g Y _ 142 (by kernel_rfl)) ?_ (by kernel_rfl) (by kernel_rfl) (by decide) rfl
    refine callFn T 16 (mg_fn T.g Y _ 142 (by kernel_rfl)) ?_
    refine spliced_more ?_
    refine ldLoc F hm1 ?_ (by kernel_rfl) (by kernel_rfl) (by decide)
    refine spliced_more ?_
    walk1
    refine ld_glob T F.keep (mg_fn T.g Y _ 128 (by kernel_rfl)) ?_ (by kernel_rfl) (by kernel_rfl) (by decide) rfl
    refine callFn T 14 (mg_fn T.g Y _ 128 (by kernel_rfl)) ?_
    refine spliced_more ?_
    refine ldLoc F hm2 ?_ (by kernel_rfl) (by kernel_rfl) (by decide)
    refine spliced_none ⟨F.keep, ?_⟩
    have T1 := T.keeps F.keep
    have Y1 := Y.keeps F.keep
    refine wpAny_mono (width_call (d := d + 1) T1 (mg_fn T1.g Y1 _ 128 (by kernel_rfl)) (by omega) hl₁) (fun v s' hv => ?_) (fun _ _ x => x)
    obtain ⟨⟨h2, tk2, rfl, hk2⟩, tt, rfl⟩ := hv
    have F2 := F.keeps hk2
    refine spliced_none ⟨F2.keep, ?_⟩
    have T2 := T.keeps F2.keep
    have Y2 := Y.keeps F2.keep
    refine wpAny_mono (fit_call (d := d + 1) T2 (mg_fn T2.g Y2 _ 142 (by kernel_rfl)) (by omega) (F2.lst hl) hS hn) (fun v s' hv => ?_) (fun _ _ x => x)
    obtain ⟨⟨h3, tk3, rfl, hk3⟩, l', vs', rfl, hS', hor⟩ := hv
    refine ⟨keeps_fr (F2.keeps hk3), l', vs', rfl, ?_, ?_⟩
    · rw [show dueC f cs k z = fitC cs (if k = 31 then z else k - 10) from if_pos hk]
      exact hS'
    · rcases hor with h | ⟨h, hp⟩
      · exact .inl h
      · refine .inr ⟨?_, hp⟩
        cases e : s.heap.get? l' with
        | none => rfl
        | some o => exact absurd (h.symm.trans (F2.keep _ _ e)) (by simp)
  · rename ¬ (8 ≤ k) => hk
    refine wpAny_execs_nil ?_
    dsimp only
    refine wpAny_execs_cons ?_
    walk1
    refine Comp2 (foldV f) (cl := [(Str.ofString "folds", s.heap.objs.size + 1)]) rfl (by kernel_rfl) (by decide +kernel) (by kernel_rfl) (by decide +kernel) (by kernel_rfl) (by kernel_rfl) (by decide) ?_
    refine ldLoc F hm1 ?_ (by kernel_rfl) (by kernel_rfl) (by decide)
    have hl2 := F.lst hl
    have hlen : vs.length = cs.length := by rw [strsAre_length hS, List.length_map]
    have key : ∀ (i : Nat) (v : Value), vs[i]? = some v → ∃ (c : Nat) (t : Tok), v = .str (ch c) t ∧ cs[i]? = some c := by
      intro i v hv
      obtain ⟨y, t, rfl, hy⟩ := strsAre_get hS hv
      rw [List.getElem?_map] at hy
      obtain ⟨c, hc, rfl⟩ := Option.map_eq_some_iff.mp hy
      exact ⟨c, t, rfl, hc⟩
    refine ⟨[l], vs.length, _, src_list rfl hl2, by omega, ?_, ?_, ?_, ?_⟩
    · intro b hb
      simp only [List.mem_singleton] at hb
      subst hb
      obtain ⟨o, ho, _⟩ := hl2
      exact ⟨o, ho⟩
    · intro i v hv
      obtain ⟨c, t, rfl, _⟩ := key i v hv
      exact hf10 c
    · intro C i v s₃ m₃ E' hv hns hm hk3
      obtain ⟨c, t, rfl, _⟩ := key i v hv
      have hf3 := hf.up (fun b o e => hk3 b o (F.keep b o e))
      obtain ⟨FF, hM, hF⟩ := hf3
      walk1
      refine wpAny_Name (wpAny_loadName_cell (by kernel_rfl) (by kernel_rfl) (by kernel_rfl) ⟨oc, hk3 _ _ (N.get (.head _)), hoc⟩ ?_) (by decide)
      refine getMethod_builtin hM.typeIs PySem.F.plainAttrs_dict PySem.F.slot_dict_get PySem.F.type_dict_get hM.noDict ?_
      refine wpAny_dict_get2 (knd := strKind pw w) (d := D) hD ?_
      show wpAny _ _ (eval (Expr.Name (Str.ofString "c") { line := 70, col := 48, endLine := 70, endCol := 49 }) (compEnvC _ _ C _)) _ _ _
      refine wpAny_Name (wpAny_loadName_local (by kernel_rfl) (by kernel_rfl) hns hm ?_) (by decide)
      show wpAny _ _ (eval (Expr.Name (Str.ofString "c") { line := 70, col := 51, endLine := 70, endCol := 52 }) (compEnvC _ _ C _)) _ _ _
      refine wpAny_Name (wpAny_loadName_local (by kernel_rfl) (by kernel_rfl) hns hm ?_) (by decide)
      refine ⟨ch c, FF, by simp [PySem.strKind, Value.isStrOf], hM, ?_, ⟨_, _, rfl, fun _ _ e => e⟩⟩
      have hFc := hF (ch c)
      show ∃ t1, (FF (ch c)).getD (.str (ch c) t) = .str ((f (ch c)).getD (ch c)) t1
      cases hfc : f (ch c) with
      | some y =>
        rw [hfc] at hFc
        obtain ⟨u, hu⟩ := hFc
        exact ⟨u, by rw [hu]; rfl⟩
      | none =>
        rw [hfc] at hFc
        exact ⟨t, by rw [hFc]; rfl⟩
    · intro D h' tk' ys vs' hD' hpl hlen' hP hS' hk'
      have hvx : vs' = vs := by
        refine List.ext_getElem? fun j => ?_
        cases e : vs'[j]? with
        | some v => exact (hP j v e).symm
        | none =>
          have h1 := List.getElem?_eq_none_iff.mp e
          exact (List.getElem?_eq_none (by omega)).symm
      subst hvx
      refine ⟨⟨h', tk', rfl, fun b o e => hk' b o (F.keep b o e)⟩, D, ys.toList, rfl, ?_, .inr ⟨?_, by simpa using hpl⟩⟩
      · rw [show dueC f cs k z = cs.flatMap fun c => (fold1 f c).cps.toList from if_neg hk, List.map_flatMap]
        have : ∀ (vs : List Value) (cs : List Nat), StrsAre vs (cs.map ch) → vs.flatMap (fun v => (foldV f v).cps.toList.map ch) = cs.flatMap fun c => (fold1 f c).cps.toList.map ch := by
          intro vs cs
          induction cs generalizing vs with
          | nil => intro h; cases h; rfl
          | cons c cs ih => 
            intro h
            cases h with
            | cons _ t h' =>
            rw [List.flatMap_cons, List.flatMap_cons, ih _ h']
            rfl
        rw [← this _ _ hS]
        exact hS'
      · cases e : s.heap.get? D with
        | none => rfl
        | some o => exact absurd (hD'.symm.trans (F.keep D o e)) (by simp)
end
end Mine
end
section
open PySem PySem.W PyProof.Rows PySem.Calls
set_option Elab.async false
set_option maxRecDepth 100000
set_option maxHeartbeats 1000000
set_option pp.maxSteps 4000
namespace Mine
section
variable {prog : Program} {w : World} {A : Around} {E : Value → Shared → Prop} {s : Shared} {env : Env}
theorem AssignComp1 {elt iter : Expr} {x y : Str} {px py : Pos} {ifs : List Expr} {scope : Scope} {cl : List (Str × Addr)} {pos spos : Pos} {Q : Flow → Shared → Prop} (h₀ : Heap) (p : Value → Bool) (R : Value → Value → Prop)
    (hsw : swapsWith (.ListComp elt [⟨.Name x px, iter, ifs, 0⟩] scope pos) (some (.Name y py)) spos.line env = pure true)
    (hclos : closureFor scope env = pure cl) (hcell : ∀ y ∈ scope.names, y.2 ≠ .cell) (hkind : scope.kind = .function)
    (hnames : ∀ y ∈ scope.names, y.2 = .local → scope.names.lookup y.1 = some .local) (hx : scope.names.lookup x = some .local)
    (hy : env.kindOf y = some .local) (hp : (env.scope.kind == .class || (env.scope.kind == .module && env.locals != env.globals)) = false)
    (h : wpAny (model prog w) A (eval iter env) (fun xv s₁ => ∃ (sl : List Addr) (n : Nat) (P : Nat → Value → Prop) (m : Str → Option Value) (news : List (Addr × Obj)), Src prog w A E xv s₁ sl n P ∧ n ≤ 1000000 ∧ Fr h₀ env.locals s₁.heap m ∧ News h₀ env.locals s₁.heap news ∧
      (∀ C i v s₃ m₃ E', P i v → s₃.heap.Ns C m₃ → m₃ x = some v → s₁.heap.objs.size ≤ C → (∀ b o, s₁.heap.get? b = some o → s₃.heap.get? b = some o) →
        wpAny (model prog w) A (forIn ifs true fun c r => if r = true then do let ok ← isTrue c (compEnvC scope cl C env) (eval c (compEnvC scope cl C env)); pure (ForInStep.yield ok) else pure (ForInStep.yield r)) (fun ok s₄ => ok = p v ∧ Keeps s₃ s₄) E' s₃) ∧
      (∀ C i v s₃ m₃ E', P i v → p v = true → s₃.heap.Ns C m₃ → m₃ x = some v → s₁.heap.objs.size ≤ C → (∀ b o, s₁.heap.get? b = some o → s₃.heap.get? b = some o) →
        wpAny (model prog w) A (eval elt (compEnvC scope cl C env)) (fun y s₄ => R v y ∧ Keeps s₃ s₄) E' s₃) ∧
      (∀ D h' tk (ys : Array Value) n₁ (vs : List Value), s₁.heap.get? D = none → vs.length = n → (∀ j v, vs[j]? = some v → P j v) → Paired R (vs.filter p) ys.toList →
        Fr h₀ env.locals h' (fun z => if z = y then some (.ref D) else m z) → News h₀ env.locals h' ((D, { cls := .type "list", data := .seq ys n₁ }) :: news) → Q .next { s₁ with heap := h', toks := tk })) E s)
    (hs : ∀ x, foldedSetIterable iter env x = pure x := by intro _; rfl) :
    wpAny (model prog w) A (exec (.Assign [.Name y py] (.ListComp elt [⟨.Name x px, iter, ifs, 0⟩] scope pos) spos) env) Q E s := by
  refine wpAny_Assign_ListComp_free p R hsw hclos hcell hkind hnames hx hy hp (wpAny_mono h (fun xv s₁ h₁ => ?_) fun _ _ e => e) hs
  obtain ⟨sl, n, P, m, news, hsrc, hn, F, N, hte, hel, hfin⟩ := h₁
  refine wpAny_mono hsrc (fun it s₂ h₂ => ?_) fun _ _ e => e
  obtain ⟨I, fp, St, oI, rfl, W, hst, rfl, hfp, _, _, rfl⟩ := h₂
  have old : ∀ b o, s₁.heap.get? b = some o → b ∉ [s₁.heap.objs.size] := fun b o e hb => by
    simp only [List.mem_singleton] at hb
    subst hb
    exact absurd (Heap.lt_size e) (Nat.lt_irrefl _)
  have up : ∀ b o, s₁.heap.get? b = some o → (s₁.heap.push oI).get? b = some o := fun b o e => Heap.get?_push_of_some _ e
  have hz : s₁.heap.objs.size ≤ (s₁.heap.push oI).objs.size := by rw [Heap.size_push]; exact Nat.le_succ _
  refine ⟨_, fp, _, n, P, St, m, rfl, W, by rw [sizeLine_eq]; omega, hst, hfp, ?_, F.ns.push _, ⟨?_, ?_⟩, ?_⟩
  · intro hb
    simp only [List.mem_singleton] at hb
    exact absurd F.ns.lt (by rw [hb]; exact Nat.lt_irrefl _)
  · intro C i v s₃ m₃ E' hC hP hn hm hk _
    exact hte C i v s₃ m₃ E' hP hn hm (Nat.le_trans hz hC) fun b o e => hk b o (old b o e) (up b o e)
  · intro C i v s₃ m₃ E' hC hP hpv hn hm hk _
    exact hel C i v s₃ m₃ E' hP hpv hn hm (Nat.le_trans hz hC) fun b o e => hk b o (old b o e) (up b o e)
  · intro D h' tk ys vs hD _ hpl hlen hP hF hns hk
    have hD1 : s₁.heap.get? D = none := by
      cases e : s₁.heap.get? D with
      | none => rfl
      | some o => exact absurd (hD.symm.trans (up D o e)) (by simp)
    obtain ⟨n₁, hpl⟩ := hpl
    have hk' : ∀ b o, b ≠ env.locals → s₁.heap.get? b = some o → h'.get? b = some o := fun b o hb e => hk b o hb (old b o e) (up b o e)
    refine hfin D h' tk ys n₁ vs hD1 hlen hP hF ⟨hns, fun b o e => hk' b o (Nat.ne_of_lt (Nat.lt_of_lt_of_le (Heap.lt_size e) F.above)) (F.keep b o e), F.above⟩ ?_
    intro q hq
    rcases List.mem_cons.mp hq with rfl | hq
    · refine ⟨hpl, ?_, ?_⟩
      · rintro rfl
        obtain ⟨oL, es, ep, hL, _⟩ := F.ns
        exact absurd (hD1.symm.trans hL) (by simp)
      · cases e : h₀.get? D with
        | none => rfl
        | some o => exact absurd (hD1.symm.trans (F.keep _ _ e)) (by simp)
    · exact ⟨hk' _ _ (N q hq).2.1 (N q hq).1, (N q hq).2⟩
end
def StepIs (h : Heap) (v : Value) (p : Int × Int) : Prop := ∃ l t u, v = .ref l ∧ h.IsList l #[.int p.1 t, .int p.2 u]
def str (cs : List Nat) : Str := ⟨cs.toArray⟩
theorem strsAre_ch (cs : List Nat) : ∀ {vs ys : List Value} {x : Str}, x.cps.toList = cs → vs.length = x.cps.size → (∀ (j : Nat) (v : Value), vs[j]? = some v → SignAt x j v) → Paired (fun v y => y = v) vs ys → StrsAre ys (cs.map ch) := by
  intro vs ys x hx hl hP hF
  have hyv : ys = vs := by
    clear hP hl
    induction hF with
    | nil => rfl
    | cons h _ ih => rw [h, ih]
  subst hyv
  have hcl : cs.length = ys.length := by rw [← hx, Array.length_toList, hl]
  have key : ∀ (j : Nat) (v : Value), ys[j]? = some v → ∃ (c : Nat) (u : Tok), cs[j]? = some c ∧ v = .str (ch c) u := by
    intro j v hv
    obtain ⟨c, u, hc, rfl⟩ := hP j v hv
    exact ⟨c, u, by rw [← hx, Array.getElem?_toList]; exact hc, rfl⟩
  clear hP hl hx hF
  induction cs generalizing ys with
  | nil =>
    cases ys with
    | nil => exact .nil
    | cons => simp at hcl
  | cons c cs ih =>
    cases ys with
    | nil => simp at hcl
    | cons v ys =>
      obtain ⟨c', u, hc', rfl⟩ := key 0 v rfl
      have : c' = c := by simpa using hc'.symm
      subst this
      exact .cons _ _ (ih (by simpa using hcl) fun j v hv => by simpa using key (j + 1) v (by simpa using hv))
end Mine
end
section
open PySem PySem.W PyProof.Rows PySem.Calls
set_option Elab.async false
set_option maxRecDepth 100000
set_option maxHeartbeats 1000000
set_option pp.maxSteps 4000
namespace Mine
structure StepOk (f : Str → Option Str) (Inv : List Nat → Prop) (steps : List (Int × Int)) : Prop where
  len : ∀ cs, Inv cs → cs.length ≤ 10000
  bound : ∀ cs, Inv cs → ∀ ds, (ds = dist cs ∨ ds = (dist cs).reverse) → ∀ k, (repl (str cs) ((foldPs ds).take k)).length ≤ 1000000
  g : ∀ cs, Inv cs → ∀ c ∈ dist cs, (g3 c).length ≤ 10
  dl : ∀ cs, Inv cs → (dist cs).length ≤ 10000
  eq : ∀ cs, Inv cs → ∀ p ∈ steps, doneT (str cs) p.1 p.2 = str (dueC f cs p.1 p.2)
  next : ∀ cs, Inv cs → ∀ p ∈ steps, Inv (dueC f cs p.1 p.2)
theorem str_list (cs : List Nat) : (str cs).cps.toList = cs := rfl
theorem str_size (cs : List Nat) : (str cs).cps.size = cs.length := List.size_toArray ..
theorem str_inj {a : Str} {cs : List Nat} (h : a.cps.toList = cs) : a = str cs := by
  subst h
  cases a
  simp [str]
theorem join_empty : ∀ (l : List Str), (Txt.join (Str.ofString "") l).cps.toList = l.flatMap fun x => x.cps.toList := by
  intro l
  show (Builtin.Str.glued (Str.ofString "") l).cps.toList = _
  rw [StrLaws.glued_eq_join]
  have e0 : (Str.ofString "").cps.toList = [] := by decide
  have app : ∀ a b : Str, (a ++ b).cps.toList = a.cps.toList ++ b.cps.toList := fun a b => by
    show (a.cps ++ b.cps).toList = _
    simp
  induction l with
  | nil => rfl
  | cons x l ih =>
    cases l with
    | nil => simp [Str.join]
    | cons y l =>
      show ((x ++ Str.ofString "") ++ Str.join (Str.ofString "") (y :: l)).cps.toList = _
      rw [app, app, ih, e0, List.append_nil, List.flatMap_cons (x := x)]
theorem join_ch (cs : List Nat) : Txt.join (Str.ofString "") (cs.map ch) = str cs := by
  refine str_inj ?_
  rw [join_empty, List.flatMap_map]
  induction cs with
  | nil => rfl
  | cons c cs ih => rw [List.flatMap_cons, ih]; rfl
theorem sum_ch (cs : List Nat) : ((cs.map ch).map (·.length)).sum = cs.length := by
  induction cs with
  | nil => rfl
  | cons c cs ih =>
    rw [List.map_cons, List.map_cons, List.sum_cons, ih, List.length_cons]
    have : (ch c).length = 1 := rfl
    omega
section
variable {w : World} {mg mb : Str → Option Value} {mean : ExcName → Option Value} {s : Shared} {a : Addr} {d : Nat} {fr : Option (List Env)} {gs : Option (List Code)} {un : Nat}
theorem chain_call {ls D : Addr} {vss : List Value} {steps : List (Int × Int)} {cs0 : List Nat} {t : Tok} {f : Str → Option Str} {Inv : List Nat → Prop} (T : Top Q (looseW Q LS) mean mg mb s.heap) (Y : YP w s.heap) (hm : mg (fnName 18) = some (.ref a)) (hd : d < 320)
    (hl : s.heap.IsList ls (List.toArray vss)) (hst : Paired (StepIs s.heap) vss steps) (hf : FoldsAt w s.heap D f) (hD : (D == sysModules) = false) (hf10 : ∀ c, (fold1 f c).cps.size ≤ 10) (ok : StepOk f Inv steps) (h0 : Inv cs0) :
   wpAny (model pw w) ⟨none, d, fr, gs, un⟩ (PySem.call (.ref a) [.str (str cs0) t, .ref ls, .ref D]) (BoolEnd s true) (fun _ _ => False) s := by
  obtain ⟨o, pm, cd, doc, ho, hdt, hcd⟩ := fn_at T 18 hm
  refine wpAny_call ?_
  refine call_plain_ret (binds := [("line", .str (str cs0) t), ("steps", .ref ls), ("folds", .ref D)]) (depth_ok (show d < 600 by omega)) ho hdt T.nolimit hcd (by kernel_rfl) (locs (by kernel_rfl)) ?_ (by kernel_rfl) (by kernel_rfl) (by kernel_rfl) (by decide +kernel)
  intro h₁ F
  have N : News s.heap s.heap.objs.size h₁ [] := News.nil
  w_on
  w_top on
  with_unfolding_all refine wpAny_execs_cons ?_
  iterate 2 ((try dsimp only); walk1)
  refine stN F N (fun h2 F2 N2 => ?_) (by kernel_rfl) (by kernel_rfl)
  try dsimp only
  refine wpAny_execs_cons ?_
  refine AssignComp1 s.heap (fun _ => true) (fun v y => y = v) (cl := []) (by kernel_rfl) (by kernel_rfl) (by decide +kernel) (by kernel_rfl) (by decide +kernel) (by kernel_rfl) (by kernel_rfl) (by kernel_rfl) ?_
  walk1
  refine ⟨[], (str cs0).cps.size, _, _, _, src_str rfl, by rw [str_size]; have := ok.len cs0 h0; omega, F2, N2, fun C i v s₃ m₃ E' _ _ _ _ _ => no_ifs (v := v), ?_, ?_⟩
  · intro C i v s₃ m₃ E' hP _ hns hm hC hk
    refine wpAny_Name (wpAny_loadName_local (by kernel_rfl) (by kernel_rfl) hns hm ?_) (by decide)
    exact ⟨rfl, ⟨_, _, rfl, fun _ _ e => e⟩⟩
  · intro l0 h3 tk3 ys n3 vs3 hl0 hlen3 hP3 hF3 F3 N3
    have hf3 : vs3.filter (fun _ => true) = vs3 := List.filter_eq_self.mpr fun _ _ => rfl
    rw [hf3] at hF3
    have hS3 := strsAre_ch cs0 (str_list cs0) hlen3 hP3 hF3
    try dsimp only
    refine wpAny_execs_cons ?_
    refine For_src s.heap (by kernel_rfl) (by kernel_rfl) ?_
    walk1
    refine ⟨[ls], vss.length, _, _, [], _, fun i m led => ∃ cs l vs n t', m (Str.ofString "text") = some (.str (str cs) t') ∧ m (Str.ofString "signs") = some (.ref l) ∧ m (Str.ofString "folds") = some (.ref D) ∧ led = [(l, { cls := .type "list", data := .seq (List.toArray vs) n })] ∧ StrsAre vs (cs.map ch) ∧ Inv cs,
      src_list rfl (F3.lst hl), F3, N3, ?_, ?_, ?_, ?_⟩
    · intro b hb
      simp only [List.mem_singleton] at hb
      subst hb
      obtain ⟨ol, hol, _⟩ := hl
      exact ⟨Nat.ne_of_lt (Heap.lt_size hol), .inl ⟨ol, hol⟩⟩
    · exact ⟨cs0, l0, ys.toList, n3, t, rfl, rfl, rfl, rfl, hS3, h0⟩
    · rintro i v m₁ led₁ h₅ tk₅ I oI hi hP ⟨cs, l, vs, n, t', hmt, hms, hmf, rfl, hS, hInv⟩ F5 N5 hoff
      obtain ⟨q, hq⟩ : ∃ q, steps[i]? = some q := ⟨_, List.getElem?_eq_getElem (by rw [← paired_length hst]; exact hi)⟩
      obtain ⟨v', hv', lst, tk1, tk2, rfl, hlst⟩ := paired_get hst hq
      have hvv : v = .ref lst := Option.some.inj (hP.symm.trans hv')
      subst hvv
      obtain ⟨kq, zq⟩ := q
      have hqm : (kq, zq) ∈ steps := List.mem_of_getElem? hq
      have e1 : (fun y => if y = Str.ofString "step" then some (Value.ref lst) else m₁ y) (Str.ofString "text") = some (.str (str cs) t') := (if_neg (by decide)).trans hmt
      have e2 : (fun y => if y = Str.ofString "step" then some (Value.ref lst) else m₁ y) (Str.ofString "signs") = some (.ref l) := (if_neg (by decide)).trans hms
      have e3 : (fun y => if y = Str.ofString "step" then some (Value.ref lst) else m₁ y) (Str.ofString "folds") = some (.ref D) := (if_neg (by decide)).trans hmf
      have e4 : (fun y => if y = Str.ofString "step" then some (Value.ref lst) else m₁ y) (Str.ofString "step") = some (.ref lst) := if_pos rfl
      obtain ⟨m5, hm5⟩ : ∃ m5, m5 = (fun y => if y = Str.ofString "step" then some (Value.ref lst) else m₁ y) := ⟨_, rfl⟩
      rw [← hm5] at e1 e2 e3 e4 F5
      clear hm5
      refine wpAny_execs_cons ?_
      iterate 2 ((try dsimp only); walk1)
      have F5 : Fr s.heap s.heap.objs.size h₅ m5 := F5
      have N5 : News s.heap s.heap.objs.size h₅ [(I, oI), (l, { cls := .type "list", data := .seq (List.toArray vs) n })] := N5
      have hlI : l ≠ I := hoff _ (.head _)
      refine ld_loose T F5 (mg_fn T.g Y _ 135 (by kernel_rfl)) ?_ (by kernel_rfl) (by kernel_rfl) (by decide)
      refine callFn T 15 (mg_fn T.g Y _ 135 (by kernel_rfl)) ?_
      refine spliced_more ?_
      refine ld F5 e1 ?_ (by kernel_rfl) (by kernel_rfl) (by decide)
      refine spliced_more ?_
      refine ld F5 e4 ?_ (by kernel_rfl) (by kernel_rfl) (by decide)
      refine spliced_none ⟨F5.keep, ?_⟩
      have T5 := T.keeps F5.keep
      have Y5 := Y.keeps F5.keep
      refine wpAny_mono (done_call (d := d + 1) T5 Y5 (mg_fn T5.g Y5 _ 135 (by kernel_rfl)) (by omega) (F5.lst hlst) (by have h1 := ok.len cs hInv; have h2 : (str cs).length = cs.length := str_size cs; omega) (ok.bound cs hInv) (ok.g cs hInv) (ok.dl cs hInv)) (fun v s' hv => ?_) (fun _ _ x => x)
      obtain ⟨⟨h6, tk6, rfl, hk6⟩, t6, rfl⟩ := hv
      rw [ok.eq cs hInv _ hqm]
      have F6 := F5.keeps hk6
      have N6 := news_keep N5 hk6
      refine stN F6 N6 (fun h7 F7 N7 => ?_) (by kernel_rfl) (by kernel_rfl)
      try dsimp only
      refine wpAny_execs_cons ?_
      iterate 2 ((try dsimp only); walk1)
      refine ld_loose T F7 (mg_fn T.g Y _ 147 (by kernel_rfl)) ?_ (by kernel_rfl) (by kernel_rfl) (by decide)
      refine callFn T 17 (mg_fn T.g Y _ 147 (by kernel_rfl)) ?_
      refine spliced_more ?_
      refine ld F7 ((if_neg (by decide)).trans e2) ?_ (by kernel_rfl) (by kernel_rfl) (by decide)
      refine spliced_more ?_
      refine ld F7 ((if_neg (by decide)).trans e4) ?_ (by kernel_rfl) (by kernel_rfl) (by decide)
      refine spliced_more ?_
      refine ld F7 ((if_neg (by decide)).trans e3) ?_ (by kernel_rfl) (by kernel_rfl) (by decide)
      refine spliced_none ⟨F7.keep, ?_⟩
      have T7 := T.keeps F7.keep
      have Y7 := Y.keeps F7.keep
      refine wpAny_mono (due_call (d := d + 1) (cs := cs) T7 Y7 (mg_fn T7.g Y7 _ 147 (by kernel_rfl)) (by omega) ⟨_, N7.get (.tail _ (.head _)), rfl, _, rfl⟩ hS (by have h1 := ok.len cs hInv; omega) (F7.lst hlst) (hf.up F7.keep) hD hf10) (fun v s' hv => ?_) (fun _ _ x => x)
      obtain ⟨⟨h8, tk8, rfl, hk8⟩, l', vs', rfl, hS', hor⟩ := hv
      have F8 := F7.keeps hk8
      have N8 := news_keep N7 hk8
      have hN8 : ∃ n', News s.heap s.heap.objs.size h8 [(I, oI), (l', { cls := .type "list", data := .seq (List.toArray vs') n' })] ∧ l' ≠ I := by
        rcases hor with ⟨rfl, rfl⟩ | ⟨hfr, n', hp'⟩
        · exact ⟨n, N8, hlI⟩
        · have N8' := news_add F7 N8 hfr hp'
          refine ⟨n', ?_, ?_⟩
          · intro q hq
            simp only [List.mem_cons, List.not_mem_nil, or_false] at hq
            rcases hq with rfl | rfl
            · exact N8' _ (.tail _ (.head _))
            · exact N8' _ (.head _)
          · exact ne_of_fresh N7 (.head _) hfr
      obtain ⟨n', N8', hlI'⟩ := hN8
      have hInv' := ok.next cs hInv _ hqm
      dsimp only at hInv' hS' ⊢
      obtain ⟨cs', hcs'⟩ : ∃ cs', cs' = dueC f cs kq zq := ⟨_, rfl⟩
      rw [← hcs'] at hInv' hS' F8
      refine stN F8 N8' (fun h9 F9 N9 => ?_) (by kernel_rfl) (by kernel_rfl)
      try dsimp only
      refine wpAny_execs_cons ?_
      iterate 2 ((try dsimp only); walk1)
      refine ld F9 ((if_neg (by decide)).trans (if_pos rfl)) ?_ (by kernel_rfl) (by kernel_rfl) (by decide)
      iterate 3 ((try dsimp only); walk1)
      iterate 2 ((try dsimp only); walk1)
      refine ld F9 (if_pos rfl) ?_ (by kernel_rfl) (by kernel_rfl) (by decide)
      refine spliced_none ?_
      have hl9 : cs'.length ≤ 10000 := ok.len cs' hInv'
      refine join_list (items := vs'.toArray) ⟨_, N9.get (.tail _ (.head _)), rfl, _, rfl⟩ hS' (by
        have h3 : (Str.ofString "").length = 0 := by decide
        rw [h3, sum_ch]
        omega) (fun t12 k12 => ?_)
      rw [join_ch]
      iterate 2 ((try dsimp only); walk1)
      rw [if_neg (by simp)]
      refine wpAny_execs_nil ?_
      try dsimp only
      refine wpAny_execs_nil ?_
      refine ⟨rfl, h9, _, _, [(l', { cls := .type "list", data := .seq (List.toArray vs') n' })], rfl, F9, N9, ?_, cs', l', vs', n', t6, (if_neg (by decide)).trans (if_pos rfl), if_pos rfl, (if_neg (by decide)).trans ((if_neg (by decide)).trans e3), rfl, hS', hInv'⟩
      intro p hp
      simp only [List.mem_singleton] at hp
      subst hp
      exact hlI'
    · rintro h' tk' m' led' F' N' _
      try dsimp only
      refine wpAny_execs_cons ?_
      iterate 2 ((try dsimp only); walk1)
      exact ⟨keeps_fr F', rfl⟩
end
end Mine
end
section
open PySem PySem.W PyProof.Rows PySem.Calls
set_option Elab.async false
set_option maxRecDepth 100000
set_option maxHeartbeats 1000000
set_option pp.maxSteps 4000
namespace Mine
/- dict comprehension -/
def foldF (ps : List (Str × Str)) (x : Str) : Option Str := ps.foldl (fun acc p => if p.1 = x then some p.2 else acc) none
theorem valueAt_stored (kvs : List (Str × Value)) (k : Str) (y : Value) (x : Str) : valueAt (stored kvs k y) x = if k = x then some y else valueAt kvs x := by
  unfold stored valueAt
  by_cases hany : kvs.any (fun kv => decide (kv.1 = k)) = true
  · rw [if_pos hany]
    rw [List.any_eq_true] at hany
    induction kvs with
    | nil => obtain ⟨_, h, _⟩ := hany; cases h
    | cons kv kvs ih =>
      rw [List.map_cons, List.find?_cons, List.find?_cons]
      by_cases hk : kv.1 = k
      · rw [if_pos hk]
        by_cases hx : k = x
        · subst hx; rw [if_pos rfl]; simp [hk]
        · rw [if_neg hx]
          have h1 : ¬ kv.1 = x := fun e => hx (hk.symm.trans e)
          simp only [h1, decide_false]
          by_cases hr : kvs.any (fun kv => decide (kv.1 = k)) = true
          · rw [List.any_eq_true] at hr
            have := ih hr
            rw [if_neg hx] at this
            exact this
          · have : kvs.map (fun kv => if kv.1 = k then (kv.1, y) else kv) = kvs := by
              have : ∀ kv ∈ kvs, (fun kv : Str × Value => if kv.1 = k then (kv.1, y) else kv) kv = id kv := by
                intro q hq
                have : ¬ q.1 = k := fun e => hr (List.any_eq_true.mpr ⟨q, hq, by simpa using e⟩)
                exact if_neg this
              rw [List.map_congr_left this, List.map_id]
            rw [this]
      · rw [if_neg hk]
        have hr : ∃ x, x ∈ kvs ∧ decide (x.1 = k) = true := by
          obtain ⟨q, hq, h⟩ := hany
          rcases List.mem_cons.mp hq with rfl | hq
          · exact absurd (by simpa using h) hk
          · exact ⟨q, hq, h⟩
        by_cases hx : kv.1 = x
        · have h2 : ¬ k = x := fun e => hk (hx.trans e.symm)
          simp [hx, h2]
        · simp only [hx, decide_false]
          exact ih hr
  · rw [if_neg hany, List.find?_append]
    by_cases hx : k = x
    · subst hx
      have : kvs.find? (fun kv => decide (kv.1 = k)) = none := by
        rw [List.find?_eq_none]
        intro q hq h
        exact hany (List.any_eq_true.mpr ⟨q, hq, h⟩)
      rw [this]
      simp
    · rw [if_neg hx]
      cases kvs.find? (fun kv => decide (kv.1 = x)) with
      | some _ => rfl
      | none => simp [hx]
theorem paired_snoc {α β : Type} {R : α → β → Prop} : ∀ {l : List α} {v : α} {ps : List β}, Paired R (l ++ [v]) ps → ∃ ps' p, ps = ps' ++ [p] ∧ Paired R l ps' ∧ R v p
  | [], v, _, .cons h .nil => ⟨[], _, rfl, .nil, h⟩
  | a :: l, v, _, .cons h hr => by
    obtain ⟨ps', p, rfl, h1, h2⟩ := paired_snoc (l := l) hr
    exact ⟨_ :: ps', p, rfl, .cons h h1, h2⟩
def FK (h : Heap) (v : Value) (k : Str) : Prop := ∃ D t u y, v = .ref D ∧ h.PlainList D #[.str k t, .str y u]
def FV (h : Heap) (v : Value) (y' : Value) : Prop := ∃ D t u k y, v = .ref D ∧ h.PlainList D #[.str k t, .str y u] ∧ y' = .str y u
theorem plain_inj {h : Heap} {D : Addr} {a b : Array Value} (h1 : h.PlainList D a) (h2 : h.PlainList D b) : a = b := by
  obtain ⟨n, h1⟩ := h1
  obtain ⟨m, h2⟩ := h2
  have e := Option.some.inj (h1.symm.trans h2)
  injection e with _ _ e _
  injection e
theorem folds_of {h0 h : Heap} {vs : List Value} {kvs : List (Str × Value)} (X : StoredAll (FK h) (FV h) vs kvs) : ∀ {ps : List (Str × Str)}, Paired (PairIs h0 h) vs ps → ∀ x, match foldF ps x with
  | some y => ∃ u, valueAt kvs x = some (.str y u)
  | none => valueAt kvs x = none := by
  induction X with
  | nil => intro ps hp x; cases hp; rfl
  | @snoc l kvs v k y _ hk hy ih =>
    intro ps hp x
    obtain ⟨ps', p, rfl, h1, D, t, u, rfl, _, hpl⟩ := paired_snoc hp
    obtain ⟨D1, t1, u1, y1, e1, hpl1⟩ := hk
    obtain ⟨D2, t2, u2, k2, y2, e2, hpl2, rfl⟩ := hy
    injection e1 with e1
    injection e2 with e2
    subst e1
    subst e2
    have a1 := plain_inj hpl hpl1
    have a2 := plain_inj hpl hpl2
    simp only [Array.mk.injEq, List.cons.injEq, Value.str.injEq, and_true] at a1 a2
    have hkk : k = p.1 := a1.1.1.symm
    have hyy : y2 = p.2 := a2.2.1.symm
    have ef : foldF (ps' ++ [p]) x = if p.1 = x then some p.2 else foldF ps' x := by
      unfold foldF
      rw [List.foldl_append]
      rfl
    rw [ef, valueAt_stored, hkk, hyy]
    by_cases hx : p.1 = x
    · rw [if_pos hx, if_pos hx]
      exact ⟨u2, rfl⟩
    · rw [if_neg hx, if_neg hx]
      exact ih h1 x
theorem foldsAt_of {w : World} {h0 h h' : Heap} {D : Addr} {vs : List Value} {kvs : List (Str × Value)} {ps : List (Str × Str)} (hd : h'.DictOf (strKind pw w) D kvs) (X : StoredAll (FK h) (FV h) vs kvs) (hp : Paired (PairIs h0 h) vs ps) : FoldsAt w h' D (foldF ps) :=
  ⟨valueAt kvs, hd.mapOf, folds_of X hp⟩
/- ledgers -/
theorem lst_led {β : Type} {X : β → Array Value → Prop} {h₀ h : Heap} {vs : List Value} {ps : List β} (hp : Paired (fun v p => ∃ D its n, v = .ref D ∧ h₀.get? D = none ∧ h.get? D = some { cls := .type "list", data := .seq its n } ∧ X p its) vs ps) :
    ∃ led : List (Addr × Obj), (∀ q ∈ led, h₀.get? q.1 = none ∧ h.get? q.1 = some q.2) ∧ ∀ h' : Heap, (∀ q ∈ led, h'.get? q.1 = some q.2) → Paired (fun v p => ∃ D its n, v = .ref D ∧ h₀.get? D = none ∧ h'.get? D = some { cls := .type "list", data := .seq its n } ∧ X p its) vs ps := by
  induction hp with
  | nil => exact ⟨[], fun q hq => (by cases hq), fun h' _ => .nil⟩
  | cons hv _ ih =>
    obtain ⟨led, h1, h2⟩ := ih
    obtain ⟨D, its, n, rfl, hD, ho, hX⟩ := hv
    refine ⟨(D, { cls := .type "list", data := .seq its n }) :: led, ?_, fun h' hh => .cons ⟨D, its, n, rfl, hD, hh _ (.head _), hX⟩ (h2 h' fun q hq => hh q (.tail _ hq))⟩
    intro q hq
    rcases List.mem_cons.mp hq with rfl | hq
    · exact ⟨hD, ho⟩
    · exact h1 q hq
theorem pairs_led {h₀ h : Heap} {vs : List Value} {ps : List (Str × Str)} (hp : Paired (PairIs h₀ h) vs ps) :
    ∃ led : List (Addr × Obj), (∀ q ∈ led, h₀.get? q.1 = none ∧ h.get? q.1 = some q.2) ∧ ∀ h' : Heap, (∀ q ∈ led, h'.get? q.1 = some q.2) → Paired (PairIs h₀ h') vs ps := by
  obtain ⟨led, h1, h2⟩ := lst_led (X := fun p its => ∃ t u, its = #[.str p.1 t, .str p.2 u]) (hp.mono fun v p ⟨D, t, u, e, hD, n, ho⟩ => ⟨D, _, n, e, hD, ho, t, u, rfl⟩)
  exact ⟨led, h1, fun h' hh => (h2 h' hh).mono fun v p ⟨D, its, n, e, hD, ho, t, u, ei⟩ => ⟨D, t, u, e, hD, n, ei ▸ ho⟩⟩
end Mine
end
section
open PySem PySem.W PyProof.Rows PySem.Calls
set_option Elab.async false
set_option maxRecDepth 100000
set_option maxHeartbeats 1000000
set_option pp.maxSteps 4000
namespace Mine
section
variable {prog : Program} {w : World} {A : Around} {E : Value → Shared → Prop} {s : Shared} {env : Env}
theorem DComp1 {K : Type} [DecidableEq K] {kx vx iter : Expr} {x : Str} {px : Pos} {scope : Scope} {cl : List (Str × Addr)} {pos : Pos} {Q : Value → Shared → Prop} (knd : KeyKind prog w K) (FK : Value → K → Prop) (FV : Value → Value → Prop)
    (hclos : closureFor scope env = pure cl) (hcell : ∀ y ∈ scope.names, y.2 ≠ .cell) (hkind : scope.kind = .function)
    (hnames : ∀ y ∈ scope.names, y.2 = .local → scope.names.lookup y.1 = some .local) (hx : scope.names.lookup x = some .local)
    (h : wpAny (model prog w) A (eval iter env) (fun xv s₁ => ∃ sl n P, Src prog w A E xv s₁ sl n P ∧ n ≤ 1000000 ∧
      (∀ C i v s₃ m₃ E', P i v → s₃.heap.Ns C m₃ → m₃ x = some v → (∀ b o, s₁.heap.get? b = some o → s₃.heap.get? b = some o) →
        wpAny (model prog w) A (eval kx (compEnvC scope cl C env)) (fun key s₄ => (∃ k, knd.is k key = true ∧ FK v k) ∧ Keeps s₃ s₄) E' s₃) ∧
      (∀ C i v s₃ m₃ E', P i v → s₃.heap.Ns C m₃ → m₃ x = some v → (∀ b o, s₁.heap.get? b = some o → s₃.heap.get? b = some o) →
        wpAny (model prog w) A (eval vx (compEnvC scope cl C env)) (fun y s₄ => FV v y ∧ Keeps s₃ s₄) E' s₃) ∧
      (∀ D h' tk kvs (vs : List Value), s₁.heap.get? D = none → h'.DictOf knd D kvs → vs.length = n → (∀ j v, vs[j]? = some v → P j v) → StoredAll FK FV vs kvs →
        (∀ b o, s₁.heap.get? b = some o → h'.get? b = some o) → Q (.ref D) { s₁ with heap := h', toks := tk })) E s)
    (hs : ∀ x, foldedSetIterable iter env x = pure x := by intro _; rfl) :
    wpAny (model prog w) A (eval (.DictComp kx vx [⟨.Name x px, iter, [], 0⟩] scope pos) env) Q E s := by
  refine wpAny_DictComp_free knd (fun _ => true) FK FV hclos hcell hkind hnames hx (wpAny_mono h (fun xv s₁ h₁ => ?_) fun _ _ e => e) hs
  obtain ⟨sl, n, P, hsrc, hn, hke, hva, hfin⟩ := h₁
  refine wpAny_mono hsrc (fun it s₂ h₂ => ?_) fun _ _ e => e
  obtain ⟨I, fp, St, oI, rfl, W, hst, rfl, hfp, _, _, rfl⟩ := h₂
  have old : ∀ b o, s₁.heap.get? b = some o → b ∉ [s₁.heap.objs.size] := fun b o e hb => by
    simp only [List.mem_singleton] at hb
    subst hb
    exact absurd (Heap.lt_size e) (Nat.lt_irrefl _)
  have up : ∀ b o, s₁.heap.get? b = some o → (s₁.heap.push oI).get? b = some o := fun b o e => Heap.get?_push_of_some _ e
  refine ⟨_, fp, _, n, P, St, rfl, W, by rw [sizeLine_eq]; omega, hst, hfp, ⟨?_, ?_, ?_⟩, ?_⟩
  · intro C i v s₃ m₃ E' hP hn hm hk
    exact no_ifs (v := v)
  · intro C i v s₃ m₃ E' hP _ hn hm hk
    exact hke C i v s₃ m₃ E' hP hn hm fun b o e => hk b o (old b o e) (up b o e)
  · intro C i v s₃ m₃ E' hP _ hn hm hk
    exact hva C i v s₃ m₃ E' hP hn hm fun b o e => hk b o (old b o e) (up b o e)
  · intro D h' tk kvs vs hD hd hlen hP hF hk
    have hf : vs.filter (fun _ => true) = vs := List.filter_eq_self.mpr fun _ _ => rfl
    rw [hf] at hF
    refine hfin D h' tk kvs vs ?_ hd hlen hP hF fun b o e => hk b o (old b o e) (up b o e)
    cases e : s₁.heap.get? D with
    | none => rfl
    | some o => exact absurd (hD.symm.trans (up D o e)) (by simp)

def LstIs (h₀ h : Heap) (X : Value → Array Value → Prop) (v y : Value) : Prop := ∃ l its n, y = .ref l ∧ h₀.get? l = none ∧ h.get? l = some { cls := .type "list", data := .seq its n } ∧ X v its

theorem loopL {R : Result → Shared → Prop} {elt iter : Expr} {x : Str} {px : Pos} {scope : Scope} {pos : Pos} {I D : Addr} {fp : List Addr} {n : Nat} {P : Nat → Value → Prop} {St : Nat → Heap → Prop} {cenv : Env} {m : Str → Option Value} (X : Value → Array Value → Prop)
    (W : Walks prog w A I fp [I] n P St) (hx : cenv.kindOf x = some .local) (hkf : cenv.scope.kind = .function)
    (hDC : D ≠ cenv.locals) (hDf : D ∉ fp) (hCf : cenv.locals ∉ fp) (hlive : ∀ i h, St i h → ∃ o, h.get? I = some o) (hst : St 0 s.heap) (hacc : s.heap.PlainList D #[]) (hn : s.heap.Ns cenv.locals m) (hn1 : n ≤ 1000000)
    (helt : ∀ i v (s₂ : Shared) m₂ E', P i v → s₂.heap.Ns cenv.locals m₂ → m₂ x = some v → (∀ b o, b ≠ cenv.locals → b ≠ I → b ≠ D → s.heap.get? b = some o → s₂.heap.get? b = some o) →
      wpAny (model prog w) A (eval elt cenv) (fun y s₃ => LstIs s₂.heap s₃.heap X v y ∧ Keeps s₂ s₃) E' s₂)
    (hR : ∀ h' tk m' ys (vs : List Value), h'.Ns cenv.locals m' → h'.PlainList D ys → vs.length = n → (∀ j v, vs[j]? = some v → P j v) → Paired (fun v y => LstIs s.heap h' X v y ∧ y ≠ .ref cenv.locals ∧ y ≠ .ref I ∧ y ≠ .ref D) vs ys.toList →
      (∀ b o, b ≠ cenv.locals → b ≠ I → b ≠ D → s.heap.get? b = some o → h'.get? b = some o) → R (.ok .next) { s with heap := h', toks := tk }) :
    codeAny (model prog w) A (.compLoop (.ListComp elt [⟨.Name x px, iter, [], 0⟩] scope pos) 0 (.ref I) (.ref D) cenv) R s := by
  have hp : (cenv.scope.kind == .class || (cenv.scope.kind == .module && cenv.locals != cenv.globals)) = false := by rw [hkf]; rfl
  have hIf : I ∈ fp := W.sub I (.head _)
  have hDI : D ≠ I := fun e => hDf (e ▸ hIf)
  have hCI : cenv.locals ≠ I := fun e => hCf (e ▸ hIf)
  refine codeAny_compLoop_tests (fun k s' => ∃ h' tk m' ys, ∃ vs : List Value, s' = { s with heap := h', toks := tk } ∧ St vs.length h' ∧ h'.PlainList D ys ∧ h'.Ns cenv.locals m' ∧ (∀ j v, vs[j]? = some v → P j v) ∧
      Paired (fun v y => LstIs s.heap h' X v y ∧ y ≠ .ref cenv.locals ∧ y ≠ .ref I ∧ y ≠ .ref D) vs ys.toList ∧ vs.length ≤ n ∧ k = n + 1 - vs.length ∧
      (∀ b o, b ≠ cenv.locals → b ≠ I → b ≠ D → s.heap.get? b = some o → h'.get? b = some o)) ?_ (n + 1)
    ⟨s.heap, s.toks, m, #[], [], rfl, hst, hacc, hn, by simp, .nil, Nat.zero_le _, rfl, fun _ _ _ _ _ e => e⟩
  rintro k s' ⟨H, tk, m', ys, vs, rfl, hst', hacc', hn', hP, hS, hi, rfl, hk⟩
  have move : ∀ (h1 h2 : Heap), (∀ b o, b ≠ cenv.locals → b ≠ I → b ≠ D → h1.get? b = some o → h2.get? b = some o) → ∀ v y, (LstIs s.heap h1 X v y ∧ y ≠ .ref cenv.locals ∧ y ≠ .ref I ∧ y ≠ .ref D) → (LstIs s.heap h2 X v y ∧ y ≠ .ref cenv.locals ∧ y ≠ .ref I ∧ y ≠ .ref D) := by
    rintro h1 h2 hk v y ⟨⟨l, its, n, rfl, h0, ho, hX⟩, n1, n2, n3⟩
    exact ⟨⟨l, its, n, rfl, h0, hk _ _ (fun e => n1 (e ▸ rfl)) (fun e => n2 (e ▸ rfl)) (fun e => n3 (e ▸ rfl)) ho, hX⟩, n1, n2, n3⟩
  by_cases hlt : vs.length < n
  · refine W.item vs.length _ _ _ hlt hst' fun v h₁ tk₁ hPv hst₁ hk₁ => ?_
    refine wpAny_assign_Name (wpAny_storeName_local hx (hn'.at' fun o e => hk₁ _ o (by simpa using hCI) e) (fun h₂ hn₂ hs₂ => ?_) hp)
    have up₂ : ∀ b o, b ≠ cenv.locals → b ≠ I → H.get? b = some o → h₂.get? b = some o := fun b o h1 h2 e => hs₂.extBut b o h1 (hk₁ b o (by simpa using h2) e)
    have hst₂ : St (vs.length + 1) h₂ := W.frame _ _ _ hst₁ fun b hb o e => hs₂.extBut b o (fun h => hCf (h ▸ hb)) e
    refine wpAny_mono (no_ifs (v := v)) (fun ok s₃ h₃ => ?_) fun _ _ e => e
    obtain ⟨rfl, h₃, tk₃, rfl, hk₃⟩ := h₃
    simp only [if_true]
    have keep₃ : ∀ b o, b ≠ cenv.locals → b ≠ I → b ≠ D → s.heap.get? b = some o → h₃.get? b = some o := fun b o h1 h2 h3 e => hk₃ b o (up₂ b o h1 h2 (hk b o h1 h2 h3 e))
    refine wpAny_mono (helt vs.length v _ _ _ hPv (hn₂.keeps hk₃) (by simp) keep₃) (fun y s₄ h₄ => ?_) fun _ _ e => e
    obtain ⟨⟨l, its, nl, rfl, hl0, hlo, hX⟩, h₄, tk₄, rfl, hk₄⟩ := h₄
    have hacc₃ : h₃.PlainList D ys := hacc'.at fun o e => hk₃ _ o (up₂ D o hDC hDI e)
    have hacc₄ : h₄.PlainList D ys := hacc₃.at fun o e => hk₄ _ o e
    have hn₄ := (hn₂.keeps hk₃).keeps hk₄
    have hst₄ : St (vs.length + 1) h₄ := W.frame _ _ _ hst₂ fun b _ o e => hk₄ b o (hk₃ b o e)
    have hlC : l ≠ cenv.locals := by
      rintro rfl
      obtain ⟨oL, es, ep, hL, _⟩ := hn₂.keeps hk₃
      exact absurd (hl0.symm.trans hL) (by simp)
    have hlD : l ≠ D := by
      rintro rfl
      obtain ⟨_, e⟩ := hacc₃
      exact absurd (hl0.symm.trans e) (by simp)
    have hlI : l ≠ I := by
      rintro rfl
      obtain ⟨o, ho⟩ := hlive _ _ hst₂
      exact absurd (hl0.symm.trans (hk₃ _ _ ho)) (by simp)
    have hl1 := paired_length hS
    refine wpAny_list_append_plain (hsz := by
      have e1 : ys.toList.length = ys.size := by simp
      rw [sizeLine_eq]; omega) hacc₄ fun h₅ hl₅ hs₅ => ?_
    refine ⟨n + 1 - (vs.length + 1), by omega, h₅, _, _, ys.push (.ref l), vs ++ [v], rfl, ?_, hl₅, hn₄.sameBut hs₅ (Ne.symm hDC), ?_, ?_, by rw [List.length_append, List.length_singleton]; exact hlt, by rw [List.length_append, List.length_singleton], ?_⟩
    · rw [List.length_append, List.length_singleton]
      exact W.frame _ _ _ hst₄ fun b hb o e => hs₅.extBut b o (fun q => hDf (q ▸ hb)) e
    · intro j u hj
      rcases Nat.lt_trichotomy j vs.length with h | h | h
      · exact hP j u (by rwa [List.getElem?_append_left h] at hj)
      · subst h; simp at hj; subst hj; exact hPv
      · have hnone : (vs ++ [v])[j]? = none := List.getElem?_eq_none (by rw [List.length_append, List.length_singleton]; omega)
        rw [hnone] at hj; cases hj
    · rw [Array.toList_push]
      have happ : ∀ {α β : Type} {R : α → β → Prop} {a : List α} {b : List β} {x : α} {y : β}, Paired R a b → R x y → Paired R (a ++ [x]) (b ++ [y]) := by
        intro α β R a b x y h hxy
        induction h with
        | nil => exact .cons hxy .nil
        | cons h1 _ ih => exact .cons h1 ih
      refine happ (hS.mono fun v y hv => move H h₅ (fun b o h1 h2 h3 e => hs₅.extBut b o h3 (hk₄ b o (hk₃ b o (up₂ b o h1 h2 e)))) v y hv) ⟨⟨l, its, nl, rfl, ?_, hs₅.extBut _ _ hlD hlo, hX⟩, fun e => hlC (by injection e), fun e => hlI (by injection e), fun e => hlD (by injection e)⟩
      cases e : s.heap.get? l with
      | none => rfl
      | some o => exact absurd (hl0.symm.trans (keep₃ _ _ hlC hlI hlD e)) (by simp)
    · intro b o h1 h2 h3 e
      exact hs₅.extBut b o h3 (hk₄ b o (keep₃ b o h1 h2 h3 e))
  · have hin : vs.length = n := by omega
    refine W.done _ _ _ (hin ▸ hst') fun h₁ tk₁ hk₁ => ?_
    exact hR h₁ tk₁ m' ys vs (hn'.at' fun o e => hk₁ _ o (by simpa using hCI) e) (hacc'.at fun o e => hk₁ _ o (by simpa using hDI) e) hin hP
      (hS.mono fun v y hv => move H h₁ (fun b o h1 h2 h3 e => hk₁ b o (by simpa using h2) e) v y hv) fun b o h1 h2 h3 e => hk₁ b o (by simpa using h2) (hk b o h1 h2 h3 e)
end
end Mine
end
section
open PySem PySem.W PyProof.Rows PySem.Calls
set_option Elab.async false
set_option maxRecDepth 100000
set_option maxHeartbeats 1000000
set_option pp.maxSteps 4000
namespace Mine
section
variable {prog : Program} {w : World} {A : Around} {E : Value → Shared → Prop} {s : Shared} {env : Env}
theorem AssignCompL {elt iter : Expr} {x y : Str} {px py : Pos} {scope : Scope} {cl : List (Str × Addr)} {pos spos : Pos} {Q : Flow → Shared → Prop} (h₀ : Heap) (X : Value → Array Value → Prop)
    (hsw : swapsWith (.ListComp elt [⟨.Name x px, iter, [], 0⟩] scope pos) (some (.Name y py)) spos.line env = pure true)
    (hclos : closureFor scope env = pure cl) (hcell : ∀ y ∈ scope.names, y.2 ≠ .cell) (hkind : scope.kind = .function)
    (hnames : ∀ y ∈ scope.names, y.2 = .local → scope.names.lookup y.1 = some .local) (hx : scope.names.lookup x = some .local)
    (hy : env.kindOf y = some .local) (hp : (env.scope.kind == .class || (env.scope.kind == .module && env.locals != env.globals)) = false)
    (h : wpAny (model prog w) A (eval iter env) (fun xv s₁ => ∃ (sl : List Addr) (n : Nat) (P : Nat → Value → Prop) (m : Str → Option Value) (news : List (Addr × Obj)), Src prog w A E xv s₁ sl n P ∧ n ≤ 1000000 ∧ Fr h₀ env.locals s₁.heap m ∧ News h₀ env.locals s₁.heap news ∧
      (∀ C i v (s₃ : Shared) m₃ E', P i v → s₃.heap.Ns C m₃ → m₃ x = some v → (∀ b o, s₁.heap.get? b = some o → s₃.heap.get? b = some o) →
        wpAny (model prog w) A (eval elt (compEnvC scope cl C env)) (fun y s₄ => LstIs s₃.heap s₄.heap X v y ∧ Keeps s₃ s₄) E' s₃) ∧
      (∀ D h' tk (ys : Array Value) n₁ (vs : List Value), s₁.heap.get? D = none → vs.length = n → (∀ j v, vs[j]? = some v → P j v) → Paired (LstIs s₁.heap h' X) vs ys.toList →
        Fr h₀ env.locals h' (fun z => if z = y then some (.ref D) else m z) → News h₀ env.locals h' ((D, { cls := .type "list", data := .seq ys n₁ }) :: news) → Q .next { s₁ with heap := h', toks := tk })) E s)
    (hs : ∀ x, foldedSetIterable iter env x = pure x := by intro _; rfl) :
    wpAny (model prog w) A (exec (.Assign [.Name y py] (.ListComp elt [⟨.Name x px, iter, [], 0⟩] scope pos) spos) env) Q E s := by
  rw [exec_Assign_Name_used _ _ _ _ hsw]
  refine wpAny_bind (wpAny_standAt (wpAny_bind ?_))
  show wpAny _ A (do let _ ← comprehension (.ListComp elt [⟨.Name x px, iter, [], 0⟩] scope pos) scope env _ (newList []) false (eval iter env) (some (assign (.Name y py) env))) _ _ s
  refine wpAny_bind (wpAny_mono (wpAny_comprehension_free (use := some (assign (.Name y py) env)) (Q := fun _ s' => Q .next s') rfl hs hclos hkind hnames
    (wpAny_mono h (fun xv s₁ h₁ => ?_) fun _ _ e => e)) (fun _ s' hq => wpAny_pure (wpAny_pure hq)) fun _ _ e => e)
  obtain ⟨sl, n, P, m, news, hsrc, hn, F, N, hel, hfin⟩ := h₁
  refine wpAny_mono hsrc (fun it s₂ h₂ => ?_) fun _ _ e => e
  obtain ⟨I, fp, St, oI, rfl, W, hst, hI, hfp, hfs, hlive, rfl⟩ := h₂
  obtain ⟨s₂, hs₂⟩ : ∃ s₂ : Shared, s₂ = { s₁ with heap := s₁.heap.push oI } := ⟨_, rfl⟩
  have hh2 : s₂.heap = s₁.heap.push oI := by rw [hs₂]
  rw [← hs₂]
  have hst' : St 0 s₂.heap := by rw [hh2]; exact hst
  have hfp' : ∀ b ∈ fp, b < s₂.heap.objs.size := by rw [hh2]; exact hfp
  refine wpAny_newObj_type (wpAny_newFunctionEnv hcell (by intro y hy; simp at hy) (fun h₁ hns₁ hsb₁ => ?_) hkind)
  dsimp only at hns₁ hsb₁ ⊢
  generalize hH2 : s₂.heap.push { cls := .type "list", dict := none, data := .seq ([] : List Value).toArray } = H2 at hns₁ hsb₁ ⊢
  have hC : H2.objs.size = s₂.heap.objs.size + 1 := by rw [← hH2, Heap.size_push]
  have hDC : s₂.heap.objs.size ≠ H2.objs.size := by rw [hC]; exact Nat.ne_of_lt (Nat.lt_succ_self _)
  have below : ∀ b, b < s₂.heap.objs.size → b ≠ H2.objs.size ∧ b ≠ s₂.heap.objs.size := fun b hb => ⟨by rw [hC]; exact Nat.ne_of_lt (Nat.lt_succ_of_lt hb), Nat.ne_of_lt hb⟩
  have hDf : s₂.heap.objs.size ∉ fp := fun hm => Nat.lt_irrefl _ (hfp' _ hm)
  have hCf : H2.objs.size ∉ fp := fun hm => by have := hfp' _ hm; rw [hC] at this; exact Nat.lt_irrefl _ (Nat.lt_of_succ_lt this)
  have old : ∀ b o, s₂.heap.get? b = some o → h₁.get? b = some o := fun b o e => hsb₁.extBut b o (below b (Heap.lt_size e)).1 (Heap.get?_push_of_some _ (hH2 ▸ Heap.get?_push_of_some _ e))
  have hacc : h₁.PlainList s₂.heap.objs.size #[] := ⟨_, hsb₁.extBut _ _ hDC (Heap.get?_push_of_some _ (hH2 ▸ Heap.get?_push_size _ rfl))⟩
  have hst₁ : St 0 h₁ := W.frame _ _ _ hst' fun b _ o e => old b o e
  have up : ∀ b o, s₁.heap.get? b = some o → s₂.heap.get? b = some o := fun b o e => by rw [hh2]; exact Heap.get?_push_of_some _ e
  have bI : ∀ b o, s₁.heap.get? b = some o → b ≠ I := fun b o e q => by
    rw [q, hI] at e
    exact absurd (Heap.lt_size e) (Nat.lt_irrefl _)
  have loop : ∀ s₃ : Shared, s₃ = { s₂ with heap := h₁, toks := s₂.toks + ([] : List (Str × Value)).length } →
      codeAny (model prog w) A (.compLoop (.ListComp elt [⟨.Name x px, iter, [], 0⟩] scope pos) 0 (.ref I) (.ref s₂.heap.objs.size) (compEnvC scope cl H2.objs.size env))
        (compPost (model prog w) A E (some (assign (.Name y py) env)) (fun _ s' => Q .next s') (.ref s₂.heap.objs.size) H2.objs.size) s₃ := by
    rintro s₃ rfl
    refine loopL (cenv := compEnvC scope cl H2.objs.size env) X W (lookup_relabel_local hx) (by simp [compEnvC, relabel, hkind]) hDC hDf hCf hlive hst₁ hacc hns₁ hn ?_ ?_
    · intro i v s₃ m₃ E' hP hn₃ hm₃ hk
      exact hel _ i v s₃ m₃ E' hP hn₃ hm₃ fun b o e => hk b o (below b (Heap.lt_size (up b o e))).1 (bI b o e) (below b (Heap.lt_size (up b o e))).2 (old b o (up b o e))
    · intro h' tk m' ys vs hn' hpl hlen hP hS hk
      have keep : ∀ b o, s₁.heap.get? b = some o → h'.get? b = some o := fun b o e => by
        have hb := below b (Heap.lt_size (up b o e))
        exact hk b o hb.1 (bI b o e) hb.2 (old b o (up b o e))
      have hLlt : env.locals < s₂.heap.objs.size := by
        obtain ⟨oL, _, _, hL, _⟩ := F.ns
        exact Heap.lt_size (up _ _ hL)
      have hLb := below _ hLlt
      have hD1 : s₁.heap.get? s₂.heap.objs.size = none := by
        cases e : s₁.heap.get? s₂.heap.objs.size with
        | none => rfl
        | some o => exact absurd (Heap.lt_size (up _ _ e)) (Nat.lt_irrefl _)
      show wpAny _ A (assign (.Name y py) env (.ref s₂.heap.objs.size)) _ _ _
      refine wpAny_assign_Name (wpAny_storeName_local hy (F.ns.keeps keep) (fun h₂ hn₂ hsb₂ => ?_) hp)
      refine ⟨m', hn'.sameBut hsb₂ (Ne.symm hLb.1), fun h₃ hsb₃ => ?_⟩
      obtain ⟨n₁, hpl⟩ := hpl
      have keep₃ : ∀ b o, b ≠ env.locals → s₁.heap.get? b = some o → h₃.get? b = some o := fun b o hb e => hsb₃.extBut b o (below b (Heap.lt_size (up b o e))).1 (hsb₂.extBut b o hb (keep b o e))
      subst hs₂
      refine hfin _ h₃ _ ys n₁ vs hD1 hlen hP (hS.mono ?_) ⟨hn₂.sameBut hsb₃ hLb.1, fun b o e => keep₃ b o (Nat.ne_of_lt (Nat.lt_of_lt_of_le (Heap.lt_size e) F.above)) (F.keep b o e), F.above⟩ ?_
      · rintro v y' ⟨⟨l, its, nl, rfl, hl0, hlo, hX⟩, n1, n2, n3⟩
        have hl1 : s₁.heap.get? l = none := by
          cases e : s₁.heap.get? l with
          | none => rfl
          | some o => exact absurd (hl0.symm.trans (old _ _ (up _ _ e))) (by simp)
        have hlL : l ≠ env.locals := by
          rintro rfl
          obtain ⟨oL, _, _, hL, _⟩ := F.ns
          exact absurd (hl1.symm.trans hL) (by simp)
        exact ⟨l, its, nl, rfl, hl1, hsb₃.extBut _ _ (fun e => n1 (e ▸ rfl)) (hsb₂.extBut _ _ hlL hlo), hX⟩
      · intro q hq
        rcases List.mem_cons.mp hq with rfl | hq
        · refine ⟨hsb₃.extBut _ _ hDC (hsb₂.extBut _ _ (Ne.symm hLb.2) hpl), Ne.symm hLb.2, ?_⟩
          cases e : h₀.get? ({ s₁ with heap := s₁.heap.push oI } : Shared).heap.objs.size with
          | none => rfl
          | some o => exact absurd (Heap.lt_size (up _ _ (F.keep _ _ e))) (Nat.lt_irrefl _)
        · exact ⟨keep₃ _ _ (N q hq).2.1 (N q hq).1, (N q hq).2⟩
  exact codeAny_compStart_list (loop _ rfl) (W.self 0 _ _ _ hst₁ (loop _ rfl))
end
end Mine
end
section
open PySem PySem.W PyProof.Rows PySem.Calls
set_option Elab.async false
set_option maxRecDepth 100000
set_option maxHeartbeats 1000000
set_option pp.maxSteps 4000
namespace Mine
def stepsOf (xs : List Int) : List (Int × Int) := (24, 0) :: ((xs.take 6).map (fun x => ((x.fmod 393216).fdiv 12288, x)) ++ [(0, 0), (17, 0)])
theorem strands_one (x : Int) : ∀ p ∈ strandsOf x, p.1.length = 1 := by
  intro p hp
  simp only [strandsOf, List.mem_cons, List.not_mem_nil, or_false] at hp
  rcases hp with rfl | rfl | rfl | rfl | rfl | rfl | rfl | rfl | rfl | rfl | rfl | rfl | rfl | rfl | rfl | rfl <;> first | rfl | decide
theorem news_app {h₀ h h' : Heap} {L : Addr} {m : Str → Option Value} {news led : List (Addr × Obj)} (F : Fr h₀ L h m) (N : News h₀ L h' news) (hled : ∀ q ∈ led, h.get? q.1 = none ∧ h'.get? q.1 = some q.2) : News h₀ L h' (led ++ news) := by
  intro q hq
  rcases List.mem_append.mp hq with hq | hq
  · obtain ⟨h1, h2⟩ := hled q hq
    refine ⟨h2, ?_, ?_⟩
    · obtain ⟨oL, es, ep, hL, _⟩ := F.ns
      intro e
      rw [e] at h1
      exact absurd (h1.symm.trans hL) (by simp)
    · cases e : h₀.get? q.1 with
      | none => rfl
      | some o => exact absurd (h1.symm.trans (F.keep _ _ e)) (by simp)
  · exact N q hq
theorem news_sub {h₀ h : Heap} {L : Addr} {news news' : List (Addr × Obj)} (N : News h₀ L h news) (hs : ∀ q ∈ news', q ∈ news) : News h₀ L h news' := fun q hq => N q (hs q hq)
theorem FoldsAt.led {w : World} {h : Heap} {D : Addr} {f : Str → Option Str} (x : FoldsAt w h D f) : ∃ o, h.get? D = some o ∧ ∀ h' : Heap, h'.get? D = some o → FoldsAt w h' D f := by
  obtain ⟨F, ⟨o, es, ep, ho, r⟩, hF⟩ := x
  exact ⟨o, ho, fun h' ho' => ⟨F, ⟨o, es, ep, ho', r⟩, hF⟩⟩
theorem not_mods {mg mb : Str → Option Value} {mean : ExcName → Option Value} {h h' : Heap} {D : Addr} (T : Top Q (looseW Q LS) mean mg mb h) (hk : ∀ b o, h.get? b = some o → h'.get? b = some o) (hD : h'.get? D = none) : (D == sysModules) = false := by
  obtain ⟨mm, ⟨o, _, _, ho, _⟩, _⟩ := (T.seer (by kernel_rfl)).mods
  refine beq_eq_false_iff_ne.mpr ?_
  rintro rfl
  exact absurd (hD.symm.trans (hk _ _ ho)) (by simp)
def StepL (h0 h : Heap) (y : Value) (p : Int × Int) : Prop := ∃ D its n, y = .ref D ∧ h0.get? D = none ∧ h.get? D = some { cls := .type "list", data := .seq its n } ∧ ∃ t u, its = #[.int p.1 t, .int p.2 u]
theorem steps_paired {h0 h : Heap} : ∀ {vs : List Value} {xs : List Int} {ys : List Value}, IntsAre vs xs → Paired (LstIs h0 h fun v its => ∃ x t u t', v = .int x t ∧ its = #[.int ((x.fmod 393216).fdiv 12288) u, .int x t']) vs ys →
    Paired (StepL h0 h) ys (xs.map fun x => ((x.fmod 393216).fdiv 12288, x))
  | _, _, _, .nil, .nil => .nil
  | _, _, _, .cons z t hI, .cons hv hr => by
    obtain ⟨l, its, n, rfl, h1, h2, x, t1, u, t', e, rfl⟩ := hv
    injection e with e1 e2
    subst e1
    exact .cons ⟨l, _, n, rfl, h1, h2, u, t', rfl⟩ (steps_paired hI hr)
theorem step_led {h₀ h : Heap} {vs : List Value} {ps : List (Int × Int)} (hp : Paired (StepL h₀ h) vs ps) :
    ∃ led : List (Addr × Obj), (∀ q ∈ led, h₀.get? q.1 = none ∧ h.get? q.1 = some q.2) ∧ ∀ h' : Heap, (∀ q ∈ led, h'.get? q.1 = some q.2) → Paired (StepIs h') vs ps := by
  obtain ⟨led, h1, h2⟩ := lst_led (X := fun (p : Int × Int) its => ∃ t u, its = #[.int p.1 t, .int p.2 u]) hp
  exact ⟨led, h1, fun h' hh => (h2 h' hh).mono fun v p ⟨D, its, n, e, hD, ho, t, u, ei⟩ => ⟨D, t, u, e, _, ho, rfl, n, ei ▸ rfl⟩⟩
theorem ints_two {vs : List Value} {x y : Int} (h : IntsAre vs [x, y]) : ∃ t u, vs = [.int x t, .int y u] := by
  cases h with | cons _ t h => cases h with | cons _ u h => cases h; exact ⟨t, u, rfl⟩
section
variable {M : Model} {A : Around} {E : Value → Shared → Prop} {s : Shared}
theorem one_if {c : Expr} {cenv : Env} {Q : Bool → Shared → Prop} (h : wpAny M A (isTrue c cenv (eval c cenv)) Q E s) :
    wpAny M A (forIn [c] true fun c r => if r = true then do let ok ← isTrue c cenv (eval c cenv); pure (ForInStep.yield ok) else pure (ForInStep.yield r)) Q E s := by
  rw [List.forIn_cons]
  refine wpAny_bind ?_
  rw [if_pos rfl]
  refine wpAny_bind (wpAny_mono h (fun ok s' h' => wpAny_pure ?_) fun _ _ e => e)
  dsimp only
  rw [List.forIn_nil]
  exact wpAny_pure h'
end
section
variable {M : Model} {A : Around} {E : Value → Shared → Prop} {s : Shared} {name : Str} {scope : Scope} {L a : Addr} {cd : Value} {h₀ : Heap} {m : Str → Option Value} {news : List (Addr × Obj)}
theorem stCellG {x : Str} {c : Addr} {o : Obj} {v₀ : Option Value} {v : Value} {Q : Unit → Shared → Prop} (F : Fr h₀ L s.heap m) (N : News h₀ L s.heap news) (hmem : (c, o) ∈ news)
    (hc : (cellsFrom (L + 1) scope.names []).lookup x = some c) (hd : o.data = .cell v₀)
    (h : ∀ h' o', Fr h₀ L h' m → o'.data = .cell (some v) → (∀ news', (∀ q ∈ news', q = (c, o') ∨ (q ∈ news ∧ q.1 ≠ c)) → News h₀ L h' news') → Q () { s with heap := h' })
    (hk : scope.kind = .function := by rfl) (hl : (envOfC name scope L a cd).kindOf x = some .cell := by rfl) :
    wpAny M A (storeName (envOfC name scope L a cd) x v) Q E s := by
  have hmem' := N (c, o) hmem
  refine wpAny_storeName_cell hk hl hc ⟨o, hmem'.1, hd⟩ fun h' hv hs => ?_
  obtain ⟨o', ho', hd'⟩ := hv
  refine h h' o' ⟨F.ns.sameBut hs (Ne.symm hmem'.2.1), fun b ob e => (hs.2 b (fun q => ?_)).trans (F.keep b ob e), F.above⟩ hd' ?_
  · rw [q, hmem'.2.2] at e; cases e
  · intro news' hn q hq
    rcases hn q hq with rfl | ⟨h1, h2⟩
    · exact ⟨ho', hmem'.2⟩
    · exact ⟨(hs.2 q.1 h2).trans (N q h1).1, (N q h1).2⟩
end
section
variable {prog : Program} {w : World} {A : Around} {E : Value → Shared → Prop} {s : Shared}
theorem sum_K {l : Addr} {vs : List Value} {ns : List Int} {Q : Value → Shared → Prop} (hh : A.handled = none) (hl : s.heap.IsList l vs.toArray) (hi : IntsAre vs ns)
    (h : ∀ h' tk t', (∀ b o, s.heap.get? b = some o → h'.get? b = some o) → Q (.int ns.sum t') { s with heap := h', toks := tk }) : wpAny (model prog w) A (call (.builtin "sum") [.ref l]) Q E s := by
  obtain ⟨ys, e⟩ := hi.allInts.items
  have hn : numsOf vs = ns := hi.numsOf
  have hn2 : numsOf (intItems ys).toList = ns := by rw [← e]; exact hn
  rw [nums_intItems] at hn2
  rw [e] at hl
  refine sum_intListG hh hl fun h' tk t' hk => ?_
  rw [preSum_eq, List.take_of_length_le (by simp), hn2]
  exact h h' tk t' hk
end
section
variable {w : World} {mg mb : Str → Option Value} {mean : ExcName → Option Value} {s : Shared} {a : Addr} {d : Nat} {fr : Option (List Env)} {gs : Option (List Code)} {un : Nat}
theorem law_call {l : Addr} {vs : List Value} {xs : List Int} {Inv : List Nat → Prop} (T : Top Q (looseW Q LS) mean mg mb s.heap) (Y : YP w s.heap) (hm : mg (fnName 19) = some (.ref a)) (hd : d < 310) (hun : un < 5000)
    (hl : s.heap.IsList l vs.toArray) (hI : IntsAre vs xs) (hn : xs.length ≤ 1000) (ok : StepOk (foldF (strandsOf xs.sum)) Inv (stepsOf xs)) (hline : Inv (lineOf (strandsOf xs.sum) xs).cps.toList) (hf10 : ∀ c, (fold1 (foldF (strandsOf xs.sum)) c).cps.size ≤ 10) :
   wpAny (model pw w) ⟨none, d, fr, gs, un⟩ (PySem.call (.ref a) [.ref l]) (BoolEnd s true) (fun _ _ => False) s := by
  obtain ⟨o, pm, cd, doc, ho, hdt, hcd⟩ := fn_at T 19 hm
  refine wpAny_call ?_
  refine call_cellsN_ret (binds := [("script", .ref l)]) (depth_ok (show d < 600 by omega)) ho hdt T.nolimit hcd (by kernel_rfl) (by
    intro y hy; simp only [List.mem_cons, List.not_mem_nil, or_false] at hy
    subst hy
    exact .inl (by kernel_rfl)) (by decide +kernel) ?_ (by kernel_rfl) (by kernel_rfl) (by kernel_rfl)
  intro h₁ tk cells F N X
  have hcf : cellsFrom (s.heap.objs.size + 1) (fnScope 19).names [] = [(Str.ofString "steps", s.heap.objs.size + 3), (Str.ofString "line", s.heap.objs.size + 2), (Str.ofString "folds", s.heap.objs.size + 1)] := by kernel_rfl
  rw [hcf] at X
  obtain ⟨o1, o2, o3, rfl, ho1, ho2, ho3⟩ : ∃ o1 o2 o3, cells = [(s.heap.objs.size + 3, o3), (s.heap.objs.size + 2, o2), (s.heap.objs.size + 1, o1)] ∧ o1.data = .cell none ∧ o2.data = .cell none ∧ o3.data = .cell none := by
    cases X with | cons h1 r => cases r with | cons h2 r => cases r with | cons h3 r => cases r; exact ⟨_, _, _, rfl, h3, h2, h1⟩
  obtain ⟨m1, hm1⟩ : ∃ m1, m1 = bindL (envOfC (fnName 19) (fnScope 19) s.heap.objs.size a cd).kindOf [(Str.ofString "script", .ref l)] (fun _ => none) := ⟨_, rfl⟩
  have hmsc : m1 (Str.ofString "script") = some (.ref l) := by rw [hm1]; kernel_rfl
  rw [← hm1] at F
  clear hm1 X hcf
  w_on
  w_top on
  with_unfolding_all refine wpAny_execs_cons ?_
  iterate 2 ((try dsimp only); walk1)
  refine ld_glob T F.keep (mg_fn T.g Y _ 97 (by kernel_rfl)) ?_ (by kernel_rfl) (by kernel_rfl) (by decide) rfl
  refine callFn T 9 (mg_fn T.g Y _ 97 (by kernel_rfl)) ?_
  refine spliced_more ?_
  walk1
  refine ld_boot T Y F.keep (by kernel_rfl) boot_sum (by decide) ?_ (by kernel_rfl) (by kernel_rfl) (by decide) rfl rfl
  walk1
  walk1
  refine ldLoc F hmsc ?_ (by kernel_rfl) (by kernel_rfl) (by decide)
  refine spliced_none ?_
  refine sum_K rfl (F.lst hl) hI fun h2 tk2 t2 hk2 => ?_
  have F2 := F.keeps hk2
  have N2 := news_keep N hk2
  refine spliced_none ⟨F2.keep, ?_⟩
  have T2 := T.keeps F2.keep
  have Y2 := Y.keeps F2.keep
  refine wpAny_mono (strands_call (d := d + 1) T2 Y2 (mg_fn T2.g Y2 _ 97 (by kernel_rfl)) (by omega)) (fun v s' hv => ?_) (fun _ _ x => x)
  obtain ⟨⟨h3, tk3, rfl, hk3⟩, lS, vsS, rfl, hnS, ⟨nS, hpS⟩, hPS⟩ := hv
  have hp16 : (strandsOf xs.sum).length = 16 := rfl
  have hp1 := strands_one xs.sum
  obtain ⟨ps, hps⟩ : ∃ ps, ps = strandsOf xs.sum := ⟨_, rfl⟩
  rw [← hps] at hPS hp16 hp1 ok hline hf10
  clear hps
  dsimp only at hk2 hk3 hnS hpS hPS ⊢
  obtain ⟨ledP, hledP, hPS'⟩ := pairs_led hPS
  obtain ⟨L, hL⟩ : ∃ L, L = s.heap.objs.size := ⟨_, rfl⟩
  have N3 : News s.heap s.heap.objs.size h3 ((lS, { cls := .type "list", data := .seq (List.toArray vsS) nS }) :: (ledP ++ [(s.heap.objs.size + 3, o3), (s.heap.objs.size + 2, o2), (s.heap.objs.size + 1, o1)])) :=
    news_add F2 (news_app F2 (news_keep N2 hk3) hledP) hnS hpS
  have F3 := F2.keeps hk3
  have hlSc : ∀ q ∈ ((lS, { cls := .type "list", data := .seq (List.toArray vsS) nS }) : Addr × Obj) :: ledP, ∀ c ∈ [(s.heap.objs.size + 3, o3), (s.heap.objs.size + 2, o2), (s.heap.objs.size + 1, o1)], q.1 ≠ c.1 := by
    intro q hq c hc
    refine ne_of_fresh N2 hc ?_
    rcases List.mem_cons.mp hq with rfl | hq
    · exact hnS
    · exact (hledP q hq).1
  refine stLocN F3 N3 (fun h4 F4 N4 => ?_) (by kernel_rfl) (by kernel_rfl)
  try dsimp only
  have hP4 := hPS' h4 fun q hq => N4.get (.tail _ (List.mem_append_left _ hq))
  refine wpAny_execs_cons ?_
  walk1
  refine DComp1 (PySem.strKind pw w) (FK h4) (FV h4) (cl := []) (by kernel_rfl) (by decide +kernel) (by kernel_rfl) (by decide +kernel) (by kernel_rfl) ?_
  refine ldLoc F4 (if_pos rfl) ?_ (by kernel_rfl) (by kernel_rfl) (by decide)
  have hlS4 : h4.IsList lS vsS.toArray := ⟨_, N4.get (.head _), rfl, _, rfl⟩
  have hlen16 : vsS.length = 16 := (paired_length hPS).trans hp16
  have hel : ∀ (i : Nat) (v : Value), vsS[i]? = some v → ∃ D t u p, v = .ref D ∧ h4.PlainList D #[.str p.1 t, .str p.2 u] ∧ ps[i]? = some p := by
    intro i v hv
    have hi : i < ps.length := by rw [hp16, ← hlen16]; exact (List.getElem?_eq_some_iff.mp hv).1
    obtain ⟨q, hq⟩ : ∃ q, ps[i]? = some q := ⟨_, List.getElem?_eq_getElem hi⟩
    obtain ⟨v', hv', D, t, u, rfl, _, hpl⟩ := paired_get hP4 hq
    have := Option.some.inj (hv'.symm.trans hv)
    exact ⟨D, t, u, q, this.symm, hpl, hq⟩
  refine ⟨[lS], vsS.length, _, src_list rfl hlS4, by omega, ?_, ?_, ?_⟩
  · intro C i v s₃ m₃ E' hv hns hm hk
    obtain ⟨D, t, u, p, rfl, hpl, hpi⟩ := hel i v hv
    iterate 1 ((try dsimp only); walk1)
    refine wpAny_Name (wpAny_loadName_local (by kernel_rfl) (by kernel_rfl) hns hm ?_) (by decide)
    iterate 1 ((try dsimp only); walk1)
    refine item_list_T (k := 0) (lstKept hpl.isList hk) (by decide) (by decide) rfl ?_
    exact ⟨⟨p.1, by simp [PySem.strKind, Value.isStrOf], D, t, u, p.2, rfl, hpl⟩, ⟨_, _, rfl, fun _ _ e => e⟩⟩
  · intro C i v s₃ m₃ E' hv hns hm hk
    obtain ⟨D, t, u, p, rfl, hpl, hpi⟩ := hel i v hv
    iterate 1 ((try dsimp only); walk1)
    refine wpAny_Name (wpAny_loadName_local (by kernel_rfl) (by kernel_rfl) hns hm ?_) (by decide)
    iterate 1 ((try dsimp only); walk1)
    refine item_list_T (k := 1) (lstKept hpl.isList hk) (by decide) (by decide) rfl ?_
    exact ⟨⟨D, t, u, p.1, p.2, rfl, hpl, rfl⟩, ⟨_, _, rfl, fun _ _ e => e⟩⟩
  · intro D h5 tk5 kvs vs5 hD5 hd5 hlen5 hP5 hS5 hk5
    have hvx : vs5 = vsS := by
      refine List.ext_getElem? fun j => ?_
      cases e : vs5[j]? with
      | some v => exact (hP5 j v e).symm
      | none =>
        have h1 := List.getElem?_eq_none_iff.mp e
        exact (List.getElem?_eq_none (by omega)).symm
    subst hvx
    have hfo := foldsAt_of hd5 hS5 hP4
    obtain ⟨oD, hoD, hfoD⟩ := hfo.led
    have hDm := not_mods T F4.keep hD5
    dsimp only at hk5 hD5
    have F5 := F4.keeps hk5
    obtain ⟨nx, hnx⟩ : ∃ nx : List (Addr × Obj), nx = (D, oD) :: (lS, { cls := .type "list", data := .seq (List.toArray vs5) nS }) :: ledP := ⟨_, rfl⟩
    have N5 : News s.heap s.heap.objs.size h5 (nx ++ [(s.heap.objs.size + 3, o3), (s.heap.objs.size + 2, o2), (s.heap.objs.size + 1, o1)]) := by
      have := news_app (led := [(D, oD)]) F4 (news_keep N4 hk5) (by intro q hq; simp only [List.mem_singleton] at hq; subst hq; exact ⟨hD5, hoD⟩)
      rw [hnx]
      exact this
    have hnc : ∀ q ∈ nx, q.1 ≠ s.heap.objs.size + 1 ∧ q.1 ≠ s.heap.objs.size + 2 ∧ q.1 ≠ s.heap.objs.size + 3 := by
      intro q hq
      rw [hnx] at hq
      rcases List.mem_cons.mp hq with rfl | hq
      · refine ⟨ne_of_fresh (q := (s.heap.objs.size + 1, o1)) N4 ?_ hD5, ne_of_fresh (q := (s.heap.objs.size + 2, o2)) N4 ?_ hD5, ne_of_fresh (q := (s.heap.objs.size + 3, o3)) N4 ?_ hD5⟩ <;> simp
      · have := hlSc q hq
        exact ⟨this (s.heap.objs.size + 1, o1) (by simp), this (s.heap.objs.size + 2, o2) (by simp), this (s.heap.objs.size + 3, o3) (by simp)⟩
    have hfo' : ∀ h' : Heap, (∀ q ∈ nx, h'.get? q.1 = some q.2) → FoldsAt w h' D (foldF ps) := fun h' hh => hfoD h' (hh _ (by rw [hnx]; exact .head _))
    have hlS' : ∀ h' : Heap, (∀ q ∈ nx, h'.get? q.1 = some q.2) → h'.IsList lS vs5.toArray := fun h' hh => ⟨_, hh (lS, _) (by rw [hnx]; exact .tail _ (.head _)), rfl, _, rfl⟩
    have hPS'' : ∀ h' : Heap, (∀ q ∈ nx, h'.get? q.1 = some q.2) → Paired (PairIs h2 h') vs5 ps := fun h' hh => hPS' h' fun q hq => hh q (by rw [hnx]; exact .tail _ (.tail _ hq))
    clear hnx hfoD hoD hfo hlS4 hel hd5 hS5 hP5 hP4 hPS' hPS N4 N3 hlSc hledP
    refine stCellG F5 N5 (o := o1) (c := s.heap.objs.size + 1) (by simp) (by kernel_rfl) ho1 (fun h6 o1' F6 ho1' N6' => ?_) (by kernel_rfl) (by kernel_rfl)
    have N6 := N6' (nx ++ [(s.heap.objs.size + 3, o3), (s.heap.objs.size + 2, o2), (s.heap.objs.size + 1, o1')]) (by
      intro q hq
      rcases List.mem_append.mp hq with hq | hq
      · exact .inr ⟨List.mem_append_left _ hq, (hnc q hq).1⟩
      · simp only [List.mem_cons, List.not_mem_nil, or_false] at hq
        rcases hq with rfl | rfl | rfl
        · exact .inr ⟨by simp, by simp⟩
        · exact .inr ⟨by simp, by simp⟩
        · exact .inl rfl)
    clear N6' N5 F5
    try dsimp only
    refine wpAny_execs_cons ?_
    iterate 2 ((try dsimp only); walk1)
    refine ld_glob T F6.keep (mg_fn T.g Y _ 107 (by kernel_rfl)) ?_ (by kernel_rfl) (by kernel_rfl) (by decide) rfl
    refine callFn T 11 (mg_fn T.g Y _ 107 (by kernel_rfl)) ?_
    refine spliced_more ?_
    refine ldLoc F6 ((if_neg (by decide)).trans hmsc) ?_ (by kernel_rfl) (by kernel_rfl) (by decide)
    refine spliced_more ?_
    refine ldLoc F6 (if_pos rfl) ?_ (by kernel_rfl) (by kernel_rfl) (by decide)
    refine spliced_none ⟨F6.keep, ?_⟩
    have T6 := T.keeps F6.keep
    have Y6 := Y.keeps F6.keep
    have hg6 : ∀ q ∈ nx, h6.get? q.1 = some q.2 := fun q hq => (N6 q (List.mem_append_left _ hq)).1
    refine wpAny_mono (line_call (d := d + 1) T6 Y6 (mg_fn T6.g Y6 _ 107 (by kernel_rfl)) (by omega) (F6.lst hl) hI (by omega) (hlS' h6 hg6) (hPS'' h6 hg6) hp16 (fun p hp => Nat.le_of_eq (hp1 p hp))) (fun v s' hv => ?_) (fun _ _ x => x)
    obtain ⟨⟨h7, tk7, rfl, hk7⟩, t7, rfl⟩ := hv
    have F7 := F6.keeps hk7
    have N7 := news_keep N6 hk7
    refine stCellG F7 N7 (o := o2) (c := s.heap.objs.size + 2) (by simp) (by kernel_rfl) ho2 (fun h8 o2' F8 ho2' N8' => ?_) (by kernel_rfl) (by kernel_rfl)
    have N8 := N8' (nx ++ [(s.heap.objs.size + 3, o3), (s.heap.objs.size + 2, o2'), (s.heap.objs.size + 1, o1')]) (by
      intro q hq
      rcases List.mem_append.mp hq with hq | hq
      · exact .inr ⟨List.mem_append_left _ hq, (hnc q hq).2.1⟩
      · simp only [List.mem_cons, List.not_mem_nil, or_false] at hq
        rcases hq with rfl | rfl | rfl
        · exact .inr ⟨by simp, by simp⟩
        · exact .inl rfl
        · exact .inr ⟨by simp, by simp⟩)
    clear N8' N7 N6 F7 F6 hk7
    try dsimp only
    refine wpAny_execs_cons ?_
    refine AssignCompL s.heap (fun v its => ∃ x t u t', v = .int x t ∧ its = #[.int ((x.fmod 393216).fdiv 12288) u, .int x t']) (cl := []) (by kernel_rfl) (by kernel_rfl) (by decide +kernel) (by kernel_rfl) (by decide +kernel) (by kernel_rfl) (by kernel_rfl) (by kernel_rfl) ?_
    walk1
    refine ldLoc F8 ((if_neg (by decide)).trans hmsc) ?_ (by kernel_rfl) (by kernel_rfl) (by decide)
    iterate 5 ((try dsimp only); walk1)
    try dsimp only
    refine slice_list (s := { s with heap := h8, toks := _ }) (lo := none) (hi := some 6) F8 N8 (F8.lst hl) .none (.int _ _) (fun h9 F9 N9 => ?_) (hsz := by
      rw [List.size_toArray, intsAre_length hI, sizeLine_eq]; omega)
    have hI6 := kmk_upto (y := 6) hI (by decide)
    obtain ⟨ws6, hws6⟩ : ∃ ws6 : List Value, slicePick vs.toArray none (some 6) none = ws6.toArray := ⟨_, rfl⟩
    rw [hws6] at N9 hI6
    have hlen6 : ws6.length = (xs.take 6).length := intsAre_length hI6
    have hle6 : (xs.take 6).length ≤ 6 := by rw [List.length_take]; omega
    refine ⟨[_], ws6.length, _, _, _, src_list rfl ⟨_, N9.get (.head _), rfl, _, rfl⟩, by omega, F9, news_sub N9 (fun q hq => List.mem_cons_of_mem _ hq), ?_, ?_⟩
    · intro C i v s₃ m₃ E' hv hns hm hk
      obtain ⟨z, tz, rfl, hz⟩ := intsAre_get hI6 hv
      refine List_ ?_
      refine spliced_more ?_
      iterate 2 ((try dsimp only); walk1)
      refine wpAny_Name (wpAny_loadName_local (by kernel_rfl) (by kernel_rfl) hns hm ?_) (by decide)
      iterate 4 ((try dsimp only); walk1)
      refine spliced_more ?_
      refine wpAny_Name (wpAny_loadName_local (by kernel_rfl) (by kernel_rfl) hns hm ?_) (by decide)
      refine spliced_none ?_
      refine wpAny_newObj_type ?_ (by show 2 ≤ sizeLine; decide)
      exact ⟨⟨_, _, 0, rfl, fresh_size _, Heap.get?_push_size _ rfl, z, tz, _, tz, rfl, rfl⟩, ⟨_, _, rfl, fun _ _ e => Heap.get?_push_of_some _ e⟩⟩
    · intro DD h10 tk10 ys10 n10 vs10 hDD hlen10 hP10 hS10 F10 N10
      have hvx : vs10 = ws6 := by
        refine List.ext_getElem? fun j => ?_
        cases e : vs10[j]? with
        | some v => exact (hP10 j v e).symm
        | none =>
          have h1 := List.getElem?_eq_none_iff.mp e
          exact (List.getElem?_eq_none (by omega)).symm
      subst hvx
      have hSt := steps_paired hI6 hS10
      obtain ⟨ledD, hledD, hStD⟩ := step_led hSt
      dsimp only at hDD hledD ⊢
      obtain ⟨ny, hny⟩ : ∃ ny : List (Addr × Obj), ny = ledD ++ (DD, { cls := .type "list", data := .seq ys10 n10 }) :: nx := ⟨_, rfl⟩
      have F9' : Fr s.heap s.heap.objs.size h9 _ := F9
      have hyl : ys10.toList.length = ys10.size := by simp
      have hyl6 : ys10.toList.length ≤ 6 := by
        rw [← paired_length hS10]; omega
      have N11 : News s.heap s.heap.objs.size h10 (ny ++ [(s.heap.objs.size + 3, o3), (s.heap.objs.size + 2, o2'), (s.heap.objs.size + 1, o1')]) := by
        rw [hny, List.append_assoc]
        exact news_app F9' N10 hledD
      have hncy : ∀ q ∈ ny, q.1 ≠ s.heap.objs.size + 1 ∧ q.1 ≠ s.heap.objs.size + 2 ∧ q.1 ≠ s.heap.objs.size + 3 := by
        intro q hq
        rw [hny] at hq
        have key : ∀ D' : Addr, h9.get? D' = none → D' ≠ s.heap.objs.size + 1 ∧ D' ≠ s.heap.objs.size + 2 ∧ D' ≠ s.heap.objs.size + 3 := by
          intro D' hD'
          refine ⟨ne_of_fresh (q := (s.heap.objs.size + 1, o1')) N9 ?_ hD', ne_of_fresh (q := (s.heap.objs.size + 2, o2')) N9 ?_ hD', ne_of_fresh (q := (s.heap.objs.size + 3, o3)) N9 ?_ hD'⟩ <;> simp
        rcases List.mem_append.mp hq with hq | hq
        · exact key _ (hledD q hq).1
        · rcases List.mem_cons.mp hq with rfl | hq
          · exact key _ hDD
          · exact hnc q hq
      have hStD' : ∀ h' : Heap, (∀ q ∈ ny, h'.get? q.1 = some q.2) → Paired (StepIs h') ys10.toList ((xs.take 6).map fun x => ((x.fmod 393216).fdiv 12288, x)) := fun h' hh => hStD h' fun q hq => hh q (by rw [hny]; exact List.mem_append_left _ hq)
      have hDDl : ∀ h' : Heap, (∀ q ∈ ny, h'.get? q.1 = some q.2) → h'.IsList DD ys10.toList.toArray := fun h' hh => ⟨_, hh (DD, _) (by rw [hny]; exact List.mem_append_right _ (.head _)), rfl, n10, by simp⟩
      have hnxy : ∀ q ∈ nx, q ∈ ny := fun q hq => by rw [hny]; exact List.mem_append_right _ (.tail _ hq)
      clear hny
      have F11 : Fr s.heap s.heap.objs.size h10 _ := F10
      refine wpAny_execs_cons ?_
      iterate 3 ((try dsimp only); walk1)
      refine List_ ?_
      refine spliced_more ?_
      refine List_ ?_
      refine spliced_lits _ ([24, 0].map .int) _ _ rfl fun vsa tka hvsa => ?_
      obtain ⟨ta, ua, rfl⟩ := ints_two (dataAre_ints hvsa)
      refine newList_G F11 N11 (fun A1 ha Fa Na hA1 _ => ?_) (by simp)
      refine spliced_none ?_
      refine newList_G Fa Na (fun B1 hb Fb Nb hB1 _ => ?_) (by simp)
      refine ldLoc Fb (if_pos rfl) ?_ (by kernel_rfl) (by kernel_rfl) (by decide)
      refine add_lists_H Fb Nb (vs := [.ref A1]) (ws := ys10.toList) ⟨_, Nb.get (.head _), rfl, _, rfl⟩ (hDDl hb fun q hq => (Nb q (.tail _ (.tail _ (List.mem_append_left _ hq)))).1) (fun E1 hc hE1 Fc Nc => ?_) (by simp only [List.length_cons, List.length_nil]; omega)
      refine List_ ?_
      refine spliced_more ?_
      refine List_ ?_
      refine spliced_lits _ ([0, 0].map .int) _ _ rfl fun vsb tkb hvsb => ?_
      obtain ⟨tb, ub, rfl⟩ := ints_two (dataAre_ints hvsb)
      refine newList_G Fc Nc (fun A2 hd2 Fd Nd hA2 _ => ?_) (by simp)
      refine spliced_more ?_
      refine List_ ?_
      refine spliced_lits _ ([17, 0].map .int) _ _ rfl fun vsc tkc hvsc => ?_
      obtain ⟨tc, uc, rfl⟩ := ints_two (dataAre_ints hvsc)
      refine newList_G Fd Nd (fun A3 he Fe Ne hA3 _ => ?_) (by simp)
      refine spliced_none ?_
      refine newList_G Fe Ne (fun B2 hf Ff Nf hB2 _ => ?_) (by simp)
      refine add_lists_H Ff Nf (vs := [.ref A1] ++ ys10.toList) (ws := [.ref A2, .ref A3]) ⟨_, Nf.get (.tail _ (.tail _ (.tail _ (.head _)))), rfl, _, rfl⟩ ⟨_, Nf.get (.head _), rfl, _, rfl⟩ (fun E2 hg hE2 Fg Ng => ?_) (by simp only [List.length_append, List.length_cons, List.length_nil]; omega)
      dsimp only at hA1 hB1 hE1 hA2 hA3 hB2 hE2 ⊢
      have keyc : ∀ {h' : Heap} {news' : List (Addr × Obj)} {D' : Addr}, News s.heap s.heap.objs.size h' news' → (∀ q ∈ [(s.heap.objs.size + 3, o3), (s.heap.objs.size + 2, o2'), (s.heap.objs.size + 1, o1')], q ∈ news') → h'.get? D' = none → D' ≠ s.heap.objs.size + 3 := by
        intro h' news' D' N' hs hD'
        exact ne_of_fresh (q := (s.heap.objs.size + 3, o3)) N' (hs _ (.head _)) hD'
      have nA1 := keyc N11 (fun q hq => List.mem_append_right _ hq) hA1
      have nA2 := keyc Nc (fun q hq => .tail _ (.tail _ (.tail _ (List.mem_append_right _ hq)))) hA2
      have nA3 := keyc Nd (fun q hq => .tail _ (.tail _ (.tail _ (.tail _ (List.mem_append_right _ hq))))) hA3
      have nE2 := keyc Nf (fun q hq => .tail _ (.tail _ (.tail _ (.tail _ (.tail _ (.tail _ (List.mem_append_right _ hq))))))) hE2
      refine stCellG Fg Ng (o := o3) (c := s.heap.objs.size + 3) (by simp) (by kernel_rfl) ho3 (fun h11 o3' F12 ho3' N12' => ?_) (by kernel_rfl) (by kernel_rfl)
      have N12 := N12' ((E2, { cls := .type "list", data := .seq ([Value.ref A1] ++ ys10.toList ++ [Value.ref A2, Value.ref A3]).toArray }) :: (A3, { cls := .type "list", data := .seq #[.int 17 tc, .int 0 uc] }) :: (A2, { cls := .type "list", data := .seq #[.int 0 tb, .int 0 ub] }) ::
        (A1, { cls := .type "list", data := .seq #[.int 24 ta, .int 0 ua] }) :: (s.heap.objs.size + 3, o3') :: (s.heap.objs.size + 2, o2') :: (s.heap.objs.size + 1, o1') :: ny) (by
        intro q hq
        simp only [List.mem_cons] at hq
        rcases hq with rfl | rfl | rfl | rfl | rfl | rfl | rfl | hq
        · exact .inr ⟨.head _, nE2⟩
        · exact .inr ⟨.tail _ (.tail _ (.head _)), nA3⟩
        · exact .inr ⟨.tail _ (.tail _ (.tail _ (.head _))), nA2⟩
        · exact .inr ⟨.tail _ (.tail _ (.tail _ (.tail _ (.tail _ (.tail _ (.head _)))))), nA1⟩
        · exact .inl rfl
        · exact .inr ⟨by simp, by simp⟩
        · exact .inr ⟨by simp, by simp⟩
        · exact .inr ⟨by simp [hq], (hncy q hq).2.2⟩)
      clear N12' Ng Fg Nf Ff Ne Fe Nd Fd Nc Fc Nb Fb Na Fa
      have hny12 : ∀ q ∈ ny, h11.get? q.1 = some q.2 := fun q hq => (N12 q (by simp [hq])).1
      have hsteps : Paired (StepIs h11) ([Value.ref A1] ++ ys10.toList ++ [Value.ref A2, Value.ref A3]) (stepsOf xs) := by
        have happ : ∀ {α β : Type} {R : α → β → Prop} {a a' : List α} {b b' : List β}, Paired R a b → Paired R a' b' → Paired R (a ++ a') (b ++ b') := by
          intro α β R a a' b b' h h'
          induction h with
          | nil => exact h'
          | cons h1 _ ih => exact .cons h1 ih
        rw [List.append_assoc]
        unfold stepsOf
        show Paired (StepIs h11) (Value.ref A1 :: (ys10.toList ++ [Value.ref A2, Value.ref A3])) _
        refine .cons ⟨A1, ta, ua, rfl, _, N12.get (.tail _ (.tail _ (.tail _ (.head _)))), rfl, _, rfl⟩ ?_
        refine happ (hStD' h11 hny12) ?_
        exact .cons ⟨A2, tb, ub, rfl, _, N12.get (.tail _ (.tail _ (.head _))), rfl, _, rfl⟩ (.cons ⟨A3, tc, uc, rfl, _, N12.get (.tail _ (.head _)), rfl, _, rfl⟩ .nil)
      obtain ⟨vsE, hvsE⟩ : ∃ vsE, vsE = [Value.ref A1] ++ ys10.toList ++ [Value.ref A2, Value.ref A3] := ⟨_, rfl⟩
      rw [← hvsE] at hsteps N12
      have hlE : vsE.length ≤ 9 := by
        rw [hvsE]; simp only [List.length_append, List.length_cons, List.length_nil]; omega
      clear hvsE
      have hlE2 : h11.IsList E2 vsE.toArray := ⟨_, N12.get (.head _), rfl, _, rfl⟩
      have hfo11 : FoldsAt w h11 D (foldF ps) := hfo' h11 fun q hq => hny12 q (hnxy q hq)
      try dsimp only
      refine wpAny_execs_cons ?_
      iterate 2 ((try dsimp only); walk1)
      refine Comp1 (fun _ => false) (fun v y => True) (cl := [(Str.ofString "steps", s.heap.objs.size + 3), (Str.ofString "line", s.heap.objs.size + 2), (Str.ofString "folds", s.heap.objs.size + 1)]) (by kernel_rfl) (by decide +kernel) (by kernel_rfl) (by decide +kernel) (by kernel_rfl) ?_
      walk1
      refine ld_boot T Y F12.keep (by kernel_rfl) boot_range (by decide) ?_ (by kernel_rfl) (by kernel_rfl) (by decide) rfl rfl
      refine PyProof.Rows.callWith_type1 ?_
      refine spliced_more ?_
      walk1
      refine ld_boot T Y F12.keep (by kernel_rfl) boot_len (by decide) ?_ (by kernel_rfl) (by kernel_rfl) (by decide) rfl rfl
      iterate 2 walk1
      refine ldCN N12 (by kernel_rfl) (.tail _ (.tail _ (.tail _ (.tail _ (.head _))))) ho3' ?_ (by kernel_rfl) (by kernel_rfl)
      refine spliced_none ?_
      refine len_listG hlE2 (List.size_toArray ..) (by omega) ?_
      refine spliced_none ?_
      try dsimp only
      refine range1_rows F12 N12 fun h12 tk12 t12 u12 v12 hr12 F13 N13 hk12 => ?_
      refine ⟨[], vsE.length, _, src_range rfl hr12 (by omega), by omega, ?_, ?_, ?_⟩
      · rintro C i v s₃ m₃ E' ⟨hi, ti, rfl⟩ hns hmk hC hk
        refine one_if ?_
        have up3 : ∀ b o, s.heap.get? b = some o → s₃.heap.get? b = some o := fun b o e => hk b o (F13.keep b o e)
        have up11 : ∀ b o, h11.get? b = some o → s₃.heap.get? b = some o := fun b o e => hk b o (hk12 b o e)
        iterate 2 ((try dsimp only); walk1)
        walk1
        refine ld_glob T up3 (mg_fn T.g Y _ 152 (by kernel_rfl)) ?_ (by kernel_rfl) (by kernel_rfl) (by decide) rfl
        refine callFn T 18 (mg_fn T.g Y _ 152 (by kernel_rfl)) ?_
        refine spliced_more ?_
        refine wpAny_Name (wpAny_loadName_cell (by kernel_rfl) (by kernel_rfl) (by kernel_rfl) ⟨o2', up11 _ _ (N12.get (.tail _ (.tail _ (.tail _ (.tail _ (.tail _ (.head _))))))), ho2'⟩ ?_) (by decide)
        refine spliced_more ?_
        walk1
        refine wpAny_Name (wpAny_loadName_cell (by kernel_rfl) (by kernel_rfl) (by kernel_rfl) ⟨o3', up11 _ _ (N12.get (.tail _ (.tail _ (.tail _ (.tail _ (.head _)))))), ho3'⟩ ?_) (by decide)
        walk1
        walk1
        refine wpAny_Name (wpAny_loadName_local (by kernel_rfl) (by kernel_rfl) hns hmk ?_) (by decide)
        iterate 2 ((try dsimp only); walk1)
        try dsimp only
        refine slice_listK (items := vsE.toArray) (lo := some (i : Int)) (hi := none) (lstKept hlE2 up11) (.int _ _) .none ?_ (hsz := by rw [List.size_toArray, sizeLine_eq]; omega)
        rw [slicePick_from']
        have kp : ∀ b o, s₃.heap.get? b = some o → ((s₃.heap.push { cls := .type "slice", data := .fields #[.int i ti, .none, .none] }).push { cls := .type "list", data := .seq (vsE.drop i).toArray }).get? b = some o := fun b o e => Heap.get?_push_of_some _ (Heap.get?_push_of_some _ e)
        have hsl : ((s₃.heap.push { cls := .type "slice", data := .fields #[.int i ti, .none, .none] }).push { cls := .type "list", data := .seq (vsE.drop i).toArray }).IsList (s₃.heap.objs.size + 1) (vsE.drop i).toArray :=
          isList_pushed2 _ _ _
        obtain ⟨h14, hh14⟩ : ∃ h14, h14 = (s₃.heap.push { cls := .type "slice", data := .fields #[.int i ti, .none, .none] }).push { cls := .type "list", data := .seq (vsE.drop i).toArray } := ⟨_, rfl⟩
        have el : vsE.toArray.toList = vsE := rfl
        rw [el]
        rw [← hh14] at kp hsl ⊢
        clear hh14
        refine spliced_more ?_
        refine wpAny_Name (wpAny_loadName_cell (by kernel_rfl) (by kernel_rfl) (by kernel_rfl) ⟨o1', kp _ _ (up11 _ _ (N12.get (.tail _ (.tail _ (.tail _ (.tail _ (.tail _ (.tail _ (.head _))))))))), ho1'⟩ ?_) (by decide)
        have up14 : ∀ b o, s.heap.get? b = some o → h14.get? b = some o := fun b o e => kp b o (up3 b o e)
        refine spliced_none ⟨up14, ?_⟩
        have T14 := T.keeps up14
        have Y14 := Y.keeps up14
        have hlstr : lineOf ps xs = str (lineOf ps xs).cps.toList := str_inj rfl
        rw [hlstr]
        have hstp : Paired (StepIs h14) (vsE.drop i) ((stepsOf xs).drop i) := by
          have hd : ∀ {α β : Type} {R : α → β → Prop} {a : List α} {b : List β}, Paired R a b → ∀ k, Paired R (a.drop k) (b.drop k) := by
            intro α β R a b h
            induction h with
            | nil => intro k; simp only [List.drop_nil]; exact .nil
            | cons h1 h2 ih =>
              intro k
              cases k with
              | zero => exact .cons h1 h2
              | succ k => exact ih k
          exact hd (hsteps.mono fun v p ⟨l', t', u', e, hl'⟩ => ⟨l', t', u', e, lstKept hl' fun b o e => kp b o (up11 b o e)⟩) i
        have ok14 : StepOk (foldF ps) Inv ((stepsOf xs).drop i) := { ok with
          eq := fun cs hc p hp => ok.eq cs hc p (List.mem_of_mem_drop hp)
          next := fun cs hc p hp => ok.next cs hc p (List.mem_of_mem_drop hp) }
        refine wpAny_mono (chain_call (d := d + 1) T14 Y14 (mg_fn T14.g Y14 _ 152 (by kernel_rfl)) (by omega) hsl hstp (hfo11.up fun b o e => kp b o (up11 b o e)) hDm hf10 ok14 hline) (fun v s' hv => ?_) (fun _ _ x => x.elim)
        obtain ⟨⟨h15, tk15, rfl, hk15⟩, rfl⟩ := hv
        iterate 1 ((try dsimp only); walk1)
        exact ⟨rfl, ⟨_, _, rfl, fun b o e => hk15 b o (kp b o e)⟩⟩
      · intro C i v s₃ m₃ E' _ hf
        cases hf
      · intro DZ h13 tk13 ysZ vsZ hDZ hplZ hlenZ hPZ hFZ hkZ
        have hysZ : ysZ = #[] := by
          have e1 : vsZ.filter (fun _ => false) = [] := by simp
          rw [e1] at hFZ
          have e2 : ysZ.toList = [] := by
            cases h : ysZ.toList with
            | nil => rfl
            | cons y ys => rw [h] at hFZ; cases hFZ
          simpa using e2
        subst hysZ
        refine List_ ?_
        refine spliced_none ?_
        refine wpAny_newObj_type ?_ (by show 0 ≤ sizeLine; exact Nat.zero_le _)
        refine PySem.SeqAt.eq_listAt (items := #[]) (items2 := #[]) (e := fun _ => true) (hplZ.isList.at fun o e => Heap.get?_push_of_some _ e) ⟨_, Heap.get?_push_size _ rfl, rfl, 0, rfl⟩ rfl (by show un + 3 < cLine; have : cLine = 9900 := rfl; omega) (fun j h1 _ => absurd h1 (Nat.not_lt_zero _)) ?_
        exact ⟨⟨_, _, rfl, fun b o e => Heap.get?_push_of_some _ (hkZ b o (F13.keep b o e))⟩, rfl⟩
end
end Mine
end
section
open PySem PySem.W PyProof.Rows PySem.Calls
set_option Elab.async false
set_option maxRecDepth 100000
set_option maxHeartbeats 1000000
namespace Mine
theorem app_list (a b : Str) : (a ++ b).cps.toList = a.cps.toList ++ b.cps.toList := by
  show (a.cps ++ b.cps).toList = _
  simp
theorem flatMap_congr' {α β : Type} {l : List α} {f g : α → List β} (h : ∀ c ∈ l, f c = g c) : l.flatMap f = l.flatMap g := by
  induction l with
  | nil => rfl
  | cons c l ih => rw [List.flatMap_cons, List.flatMap_cons, h c (.head _), ih fun d hd => h d (.tail _ hd)]
/- joining parts that are free of a sign -/
theorem join_swap (c : Nat) (y : Str) : ∀ (l : List Str), (∀ p ∈ l, c ∉ p.cps.toList) → (Str.join y l).cps.toList = (Str.join (ch c) l).cps.toList.flatMap fun d => if d = c then y.cps.toList else [d] := by
  have free : ∀ (l : List Nat), c ∉ l → (l.flatMap fun d => if d = c then y.cps.toList else [d]) = l := by
    intro l
    induction l with
    | nil => intro _; rfl
    | cons d l ih =>
      intro h
      have h1 : ¬ d = c := fun e => h (e ▸ .head _)
      rw [List.flatMap_cons, if_neg h1, ih fun e => h (.tail _ e)]
      rfl
  intro l
  induction l with
  | nil => intro _; rfl
  | cons x l ih =>
    intro h
    cases l with
    | nil =>
      show x.cps.toList = x.cps.toList.flatMap _
      exact (free _ (h x (.head _))).symm
    | cons z l =>
      show ((x ++ y) ++ Str.join y (z :: l)).cps.toList = ((x ++ ch c) ++ Str.join (ch c) (z :: l)).cps.toList.flatMap _
      rw [app_list, app_list, app_list, app_list, List.flatMap_append, List.flatMap_append, free _ (h x (.head _)), ih fun p hp => h p (.tail _ hp)]
      have : (ch c).cps.toList.flatMap (fun d => if d = c then y.cps.toList else [d]) = y.cps.toList := by
        show ([c]).flatMap _ = _
        simp
      rw [this]
theorem rep1_list (cs : List Nat) (c : Nat) (y : Str) : rep1 (str cs) c y = str (cs.flatMap fun d => if d = c then y.cps.toList else [d]) := by
  refine str_inj ?_
  unfold rep1
  show (Builtin.Str.glued y (Txt.split (str cs) (ch c))).cps.toList = _
  rw [StrLaws.glued_eq_join, join_swap c y _ (StrLaws.split_free (str cs) c), StrLaws.join_split]
  rfl
/- replace -/
def gl (c : Nat) : List Nat := (g3 c).cps.toList
theorem repl_list {cs : List Nat} (hst : ∀ c ∈ cs, ∀ e ∈ gl c, gl e = [e]) : ∀ (ds S : List Nat), repl (str (cs.flatMap fun c => if c ∈ S then gl c else [c])) (foldPs ds) = str (cs.flatMap fun c => if c ∈ S ++ ds then gl c else [c]) := by
  intro ds
  induction ds with
  | nil => intro S; rw [List.append_nil]; rfl
  | cons d ds ih =>
    intro S
    have e1 : repl (str (cs.flatMap fun c => if c ∈ S then gl c else [c])) (foldPs (d :: ds)) = repl (rep1 (str (cs.flatMap fun c => if c ∈ S then gl c else [c])) d (g3 d)) (foldPs ds) := rfl
    rw [e1, rep1_list]
    have e2 : (cs.flatMap fun c => if c ∈ S then gl c else [c]).flatMap (fun e => if e = d then (g3 d).cps.toList else [e]) = cs.flatMap fun c => if c ∈ S ++ [d] then gl c else [c] := by
      rw [List.flatMap_assoc]
      have key : ∀ c ∈ cs, ((if c ∈ S then gl c else [c]).flatMap fun e => if e = d then (g3 d).cps.toList else [e]) = if c ∈ S ++ [d] then gl c else [c] := by
        intro c hc
        by_cases hS : c ∈ S
        · rw [if_pos hS, if_pos (List.mem_append_left _ hS)]
          have : ∀ (l : List Nat), (∀ e ∈ l, gl e = [e]) → (l.flatMap fun e => if e = d then (g3 d).cps.toList else [e]) = l := by
            intro l
            induction l with
            | nil => intro _; rfl
            | cons e l ih =>
              intro h
              rw [List.flatMap_cons, ih fun e he => h e (.tail _ he)]
              by_cases hed : e = d
              · rw [if_pos hed, ← hed]
                have := h e (.head _)
                unfold gl at this
                rw [this]
                rfl
              · rw [if_neg hed]
                rfl
          exact this _ (hst c hc)
        · rw [if_neg hS]
          show ([c]).flatMap _ = _
          rw [List.flatMap_cons, List.flatMap_nil, List.append_nil]
          by_cases hcd : c = d
          · rw [if_pos hcd, if_pos (by rw [hcd]; simp), hcd]
            rfl
          · rw [if_neg hcd, if_neg (by simp [hS, hcd])]
      exact flatMap_congr' key
    rw [e2, ih (S ++ [d]), List.append_assoc]
    rfl
theorem repl_all {cs ds : List Nat} (hst : ∀ c ∈ cs, ∀ e ∈ gl c, gl e = [e]) : repl (str cs) (foldPs ds) = str (cs.flatMap fun c => if c ∈ ds then gl c else [c]) := by
  have := repl_list hst ds []
  have e : (cs.flatMap fun c => if c ∈ ([] : List Nat) then gl c else [c]) = cs := by
    have : (fun c : Nat => if c ∈ ([] : List Nat) then gl c else [c]) = fun c => [c] := by
      funext c; rw [if_neg (by simp)]
    rw [this]
    simp
  rw [e] at this
  simpa using this
/- dist -/
theorem mem_distF {acc : List Nat} {c d : Nat} : d ∈ distF acc c ↔ d ∈ acc ∨ d = c := by
  unfold distF
  by_cases h : c ∈ acc
  · rw [if_pos h]
    constructor
    · exact .inl
    · rintro (h1 | rfl)
      · exact h1
      · exact h
  · rw [if_neg h]; simp
theorem mem_foldl_distF (l : List Nat) : ∀ (acc : List Nat) (d : Nat), d ∈ l.foldl distF acc ↔ d ∈ acc ∨ d ∈ l := by
  induction l with
  | nil => intro acc d; simp
  | cons c l ih => intro acc d; rw [List.foldl_cons, ih, mem_distF, List.mem_cons, or_assoc]
theorem mem_dist {l : List Nat} {d : Nat} : d ∈ dist l ↔ d ∈ l := by
  unfold dist
  rw [mem_foldl_distF]; simp
theorem length_dist (l : List Nat) : (dist l).length ≤ l.length := by
  have : ∀ (l acc : List Nat), (l.foldl distF acc).length ≤ acc.length + l.length := by
    intro l
    induction l with
    | nil => intro acc; exact Nat.le_refl _
    | cons c l ih =>
      intro acc
      have h1 := ih (distF acc c)
      have h2 : (distF acc c).length ≤ acc.length + 1 := by
        unfold distF
        split
        · exact Nat.le_succ _
        · rw [List.length_append]; exact Nat.le_refl _
      rw [List.foldl_cons, List.length_cons]
      omega
  have := this l []
  simpa [dist] using this
/- cram -/
theorem slice_to {cs : List Nat} {k : Int} (h0 : 0 ≤ k) (h1 : k ≤ cs.length) : (Txt.slice (str cs) none (some k)).cps.toList = cs.take k.toNat := by
  have h := slice_closes_to (x := str cs) (j := k) ⟨h0, h1⟩
  rw [beq_iff_eq.mp h]
  simp [str]
theorem slice_at {cs : List Nat} {k : Int} (h0 : 0 ≤ k) (h1 : k ≤ cs.length) : (Txt.slice (str cs) (some k) none).cps.toList = cs.drop k.toNat := by
  have h := slice_closes_from (x := str cs) (i := k) ⟨h0, h1⟩
  rw [beq_iff_eq.mp h]
  show (cs.drop k.toNat).take _ = _
  refine List.take_of_length_le ?_
  rw [List.length_drop]
  show _ ≤ ((cs.length : Int) - k).toNat
  omega
theorem cram_fit (cs : List Nat) (n : Int) : cramT (str cs) n = str (fitC cs n) := by
  have hlen : (str cs).length = cs.length := str_size cs
  unfold cramT fitC
  rw [hlen]
  by_cases hle : (cs.length : Int) ≤ n
  · rw [if_neg (by omega), if_pos hle]
  · rw [if_pos (by omega), if_neg hle]
    refine str_inj ?_
    rw [app_list, app_list]
    have e1 : (if (n - 3).fdiv 2 > 0 then (n - 3).fdiv 2 else 0) = (((n - 3).toNat / 2 : Nat) : Int) := by
      rw [Int.fdiv_eq_ediv_of_nonneg _ (by decide)]
      split <;> omega
    rw [e1]
    have e2 : (if n - 3 - (((n - 3).toNat / 2 : Nat) : Int) > 0 then n - 3 - (((n - 3).toNat / 2 : Nat) : Int) else 0) = ((((n - 3).toNat + 1) / 2 : Nat) : Int) := by
      split <;> omega
    rw [e2, slice_to (by omega) (by omega), slice_at (by omega) (by omega)]
    have e3 : (Str.ofString "...").cps.toList = [46, 46, 46] := by decide
    rw [e3]
    congr 2
    omega
end Mine
end
section
open PySem PySem.W PyProof.Rows PySem.Calls
set_option Elab.async false
set_option maxRecDepth 100000
set_option maxHeartbeats 1000000
namespace Mine
/- a Chinese sign -/
theorem set_far : (setEs.all fun e => decide (e.1 < 19968) || decide (40870 ≤ e.1)) = true := by decide +kernel
theorem kv_far : (KV.all fun e => decide (e.1 < 19968) || decide (40870 ≤ e.1)) = true := by decide +kernel
theorem one_far : (UnicodeData.oneLower.all fun e => decide (e.2.1 < 19968) || decide (40870 ≤ e.1)) = true := by decide +kernel
theorem several_far : (UnicodeData.severalLower.all fun e => decide (e.1 < 19968) || decide (40870 ≤ e.1)) = true := by decide +kernel
theorem shifted_far {c : Nat} (h1 : 19968 ≤ c) (h2 : c < 40870) : ∀ (l : List (Nat × Nat × Nat)), (l.all fun e => decide (e.2.1 < 19968) || decide (40870 ≤ e.1)) = true → Unicode.shifted l c = none
  | [], _ => rfl
  | (a, b, t) :: r, h => by
    rw [List.all_cons, Bool.and_eq_true, Bool.or_eq_true, decide_eq_true_eq, decide_eq_true_eq] at h
    show (if c < a then none else if c ≤ b then some (t + (c - a)) else Unicode.shifted r c) = none
    by_cases hc : c < a
    · rw [if_pos hc]
    · rw [if_neg hc, if_neg (by dsimp only at h; omega)]
      exact shifted_far h1 h2 r h.2
theorem lookup_far {c : Nat} (h1 : 19968 ≤ c) (h2 : c < 40870) : ∀ (l : List (Nat × List Nat)), (l.all fun e => decide (e.1 < 19968) || decide (40870 ≤ e.1)) = true → l.lookup c = none
  | [], _ => rfl
  | (a, b) :: r, h => by
    rw [List.all_cons, Bool.and_eq_true, Bool.or_eq_true, decide_eq_true_eq, decide_eq_true_eq] at h
    have hne : (c == a) = false := by
      refine beq_eq_false_iff_ne.mpr fun e => ?_
      subst e
      dsimp only at h
      omega
    rw [List.lookup_cons, hne]
    exact lookup_far h1 h2 r h.2
theorem lower_far {c : Nat} (h1 : 19968 ≤ c) (h2 : c < 40870) : Txt.lower (ch c) = ch c := by
  have e : Unicode.lowerAt #[c] 0 = [c] := by
    unfold Unicode.lowerAt
    show (if (c == 0x3A3 && Unicode.endsWord #[c] 0) = true then [0x3C2] else Unicode.lowerOf c) = _
    have hc : (c == 0x3A3) = false := beq_eq_false_iff_ne.mpr (by omega)
    rw [hc, Bool.false_and, if_neg (by simp)]
    unfold Unicode.lowerOf Unicode.image
    rw [lookup_far h1 h2 _ several_far, shifted_far h1 h2 _ one_far]
    rfl
  unfold Txt.lower placed
  have : (Array.mapIdx (fun i _ => (Unicode.lowerAt #[c] i).toArray) #[c]) = #[(Unicode.lowerAt #[c] 0).toArray] := rfl
  show Str.mk (Array.mapIdx (fun i _ => (Unicode.lowerAt #[c] i).toArray) #[c]).flatten = _
  rw [this, e]
  rfl
theorem g3_far {c : Nat} (h1 : 19968 ≤ c) (h2 : c < 40870) : g3 c = ch c := by
  have hb1 : b1 (c : Int) = false := by
    unfold b1
    rw [List.any_eq_false]
    intro e he h
    have := List.all_eq_true.mp set_far e he
    rw [Bool.or_eq_true, decide_eq_true_eq, decide_eq_true_eq] at this
    have := beq_iff_eq.mp h
    omega
  have hb3 : b3 (c : Int) = none := by
    unfold b3
    have : KV.find? (fun x => x.1 == (c : Int)) = none := by
      rw [List.find?_eq_none]
      intro e he h
      have := List.all_eq_true.mp kv_far e he
      rw [Bool.or_eq_true, decide_eq_true_eq, decide_eq_true_eq] at this
      have := beq_iff_eq.mp h
      omega
    rw [this]
    rfl
  unfold g3 map3
  rw [hb1, hb3, if_neg (by simp)]
  exact lower_far h1 h2
/- the strands -/
def StrandOk (p : Str × Str) : Prop := ∃ c, p.1 = ch c ∧ p.2 = g3 c ∧ (∀ d ∈ gl c, gl d = [d]) ∧ (gl c).length ≤ 10
theorem strandOk_of {x y : Str} {c : Nat} (h1 : x = ch c) (h2 : y = g3 c) (h3 : ((gl c).all fun d => gl d == [d]) = true) (h4 : (gl c).length ≤ 10) : StrandOk (x, y) :=
  ⟨c, h1, h2, fun d hd => beq_iff_eq.mp (List.all_eq_true.mp h3 d hd), h4⟩
theorem gone_b1 : (gone.all fun v => b1 v && decide (0 ≤ v)) = true := by decide +kernel
theorem ok_concrete : ∀ q ∈ ([(97, "a", "a"), (65, "A", "a"), (66, "B", "b"), (46, ".", "."), (0xdf, "ß", "ss"), (0x200b, "\u200b", ""), (0x37a, "ͺ", " ι"), (0x3392, "㎒", "mhz"), (32, " ", " "), (0x416, "Ж", "ж"), (0xfb03, "ﬃ", "ffi"), (0x2160, "Ⅰ", "ⅰ"), (0x1d54f, "𝕏", "x"), (99, "c", "c")] : List (Nat × String × String)),
    Str.ofString q.2.1 = ch q.1 ∧ Str.ofString q.2.2 = g3 q.1 ∧ ((gl q.1).all fun d => gl d == [d]) = true ∧ (gl q.1).length ≤ 10 := by decide +kernel
theorem strands_ok (x : Int) : ∀ p ∈ strandsOf x, StrandOk p := by
  have lit : ∀ q ∈ ([(97, "a", "a"), (65, "A", "a"), (66, "B", "b"), (46, ".", "."), (0xdf, "ß", "ss"), (0x200b, "\u200b", ""), (0x37a, "ͺ", " ι"), (0x3392, "㎒", "mhz"), (32, " ", " "), (0x416, "Ж", "ж"), (0xfb03, "ﬃ", "ffi"), (0x2160, "Ⅰ", "ⅰ"), (0x1d54f, "𝕏", "x"), (99, "c", "c")] : List (Nat × String × String)),
      StrandOk (Str.ofString q.2.1, Str.ofString q.2.2) := fun q hq => let ⟨h1, h2, h3, h4⟩ := ok_concrete q hq; strandOk_of h1 h2 h3 h4
  have hgone : StrandOk (ch (gone.getD (x.fmod 27).toNat 0).toNat, Str.ofString "") := by
    have hm27 : 0 ≤ x.fmod 27 ∧ x.fmod 27 < 27 := ⟨Int.fmod_nonneg_of_pos _ (by decide), Int.fmod_lt_of_pos _ (by decide)⟩
    have hgl : gone.length = 27 := by decide
    have hmem : gone.getD (x.fmod 27).toNat 0 ∈ gone := by
      rw [List.getD_eq_getElem?_getD, List.getElem?_eq_getElem (by omega)]
      exact List.getElem_mem _
    obtain ⟨v, hv⟩ : ∃ v, v = gone.getD (x.fmod 27).toNat 0 := ⟨_, rfl⟩
    rw [← hv] at hmem ⊢
    have hb := List.all_eq_true.mp gone_b1 v hmem
    rw [Bool.and_eq_true, decide_eq_true_eq] at hb
    have hg : g3 v.toNat = Str.ofString "" := by
      unfold g3
      rw [show ((v.toNat : Nat) : Int) = v from Int.toNat_of_nonneg hb.2, hb.1, if_pos rfl]
    have hl : gl v.toNat = [] := by unfold gl; rw [hg]; decide
    exact ⟨v.toNat, rfl, hg.symm, fun d hd => (by rw [hl] at hd; cases hd), (by show (gl v.toNat).length ≤ 10; rw [hl]; exact Nat.zero_le _)⟩
  have hother : StrandOk (ch (19968 + x.fmod 20902).toNat, ch (19968 + x.fmod 20902).toNat) := by
    have hmo : 0 ≤ x.fmod 20902 ∧ x.fmod 20902 < 20902 := ⟨Int.fmod_nonneg_of_pos _ (by decide), Int.fmod_lt_of_pos _ (by decide)⟩
    obtain ⟨c, hc⟩ : ∃ c, c = (19968 + x.fmod 20902).toNat := ⟨_, rfl⟩
    rw [← hc]
    have hg := g3_far (c := c) (by omega) (by omega)
    have hl : gl c = [c] := by unfold gl; rw [hg]
    refine ⟨c, rfl, hg.symm, ?_, by rw [hl]; simp⟩
    rw [hl]
    intro d hd
    simp only [List.mem_singleton] at hd
    rw [hd, hl]
  intro p hp
  simp only [strandsOf, List.mem_cons, List.not_mem_nil, or_false] at hp
  rcases hp with rfl | rfl | rfl | rfl | rfl | rfl | rfl | rfl | rfl | rfl | rfl | rfl | rfl | rfl | rfl | rfl
  · exact lit (97, "a", "a") (by simp)
  · exact lit (65, "A", "a") (by simp)
  · exact lit (66, "B", "b") (by simp)
  · exact lit (46, ".", ".") (by simp)
  · exact lit (0xdf, "ß", "ss") (by simp)
  · exact lit (0x200b, "\u200b", "") (by simp)
  · exact lit (0x37a, "ͺ", " ι") (by simp)
  · exact lit (0x3392, "㎒", "mhz") (by simp)
  · exact lit (32, " ", " ") (by simp)
  · exact lit (0x416, "Ж", "ж") (by simp)
  · exact lit (0xfb03, "ﬃ", "ffi") (by simp)
  · exact hgone
  · exact lit (0x2160, "Ⅰ", "ⅰ") (by simp)
  · exact hother
  · exact lit (0x1d54f, "𝕏", "x") (by simp)
  · exact lit (99, "c", "c") (by simp)
/- the drawn folds -/
theorem foldF_snoc (ps : List (Str × Str)) (p : Str × Str) (x : Str) : foldF (ps ++ [p]) x = if p.1 = x then some p.2 else foldF ps x := by
  unfold foldF
  rw [List.foldl_append]
  rfl
theorem foldF_mem {x y : Str} : ∀ {ps : List (Str × Str)}, foldF ps x = some y → ∃ p ∈ ps, p.1 = x ∧ p.2 = y := by
  have key : ∀ (n : Nat) (ps : List (Str × Str)), ps.length = n → foldF ps x = some y → ∃ p ∈ ps, p.1 = x ∧ p.2 = y := by
    intro n
    induction n with
    | zero =>
      intro ps hn h
      rw [List.length_eq_zero_iff.mp hn] at h
      cases h
    | succ n ih =>
      intro ps hn h
      rcases List.eq_nil_or_concat ps with rfl | ⟨qs, p, rfl⟩
      · cases hn
      · rw [List.concat_eq_append] at h hn ⊢
        rw [foldF_snoc] at h
        by_cases hp : p.1 = x
        · rw [if_pos hp] at h
          exact ⟨p, by simp, hp, Option.some.inj h⟩
        · rw [if_neg hp] at h
          obtain ⟨q, hq, h1⟩ := ih qs (by simpa using hn) h
          exact ⟨q, List.mem_append_left _ hq, h1⟩
  intro ps h
  exact key _ ps rfl h
theorem foldF_none {x : Str} : ∀ {ps : List (Str × Str)}, foldF ps x = none → ∀ p ∈ ps, p.1 ≠ x := by
  have key : ∀ (n : Nat) (ps : List (Str × Str)), ps.length = n → foldF ps x = none → ∀ p ∈ ps, p.1 ≠ x := by
    intro n
    induction n with
    | zero =>
      intro ps hn h p hp
      rw [List.length_eq_zero_iff.mp hn] at hp
      cases hp
    | succ n ih =>
      intro ps hn h p hp
      rcases List.eq_nil_or_concat ps with rfl | ⟨qs, q, rfl⟩
      · cases hn
      · rw [List.concat_eq_append] at h hn hp
        rw [foldF_snoc] at h
        by_cases hq : q.1 = x
        · rw [if_pos hq] at h; cases h
        · rw [if_neg hq] at h
          rcases List.mem_append.mp hp with h1 | h1
          · exact ih qs (by simpa using hn) h p h1
          · simp only [List.mem_singleton] at h1
            rw [h1]; exact hq
  intro ps h
  exact key _ ps rfl h
theorem ch_inj {a b : Nat} (h : ch a = ch b) : a = b := by
  have := congrArg (fun s : Str => s.cps.toList) h
  simpa using this
def Al (x : Int) (c : Nat) : Prop := (∃ p ∈ strandsOf x, p.1 = ch c) ∨ gl c = [c]
theorem gl_ch {c : Nat} (h : gl c = [c]) : g3 c = ch c := by
  have := str_inj (a := g3 c) (cs := [c]) h
  rw [this]
  rfl
theorem fold1_al {x : Int} {c : Nat} (h : Al x c) : fold1 (foldF (strandsOf x)) c = g3 c := by
  unfold fold1
  cases e : foldF (strandsOf x) (ch c) with
  | some y =>
    obtain ⟨p, hp, h1, rfl⟩ := foldF_mem e
    obtain ⟨c', h2, h3, _⟩ := strands_ok x p hp
    have : c' = c := ch_inj (h2.symm.trans h1)
    rw [← this]
    exact h3
  | none =>
    rcases h with ⟨p, hp, h1⟩ | h
    · exact absurd h1 (foldF_none e p hp)
    · exact (gl_ch h).symm
theorem fold1_small (x : Int) (c : Nat) : (fold1 (foldF (strandsOf x)) c).cps.size ≤ 10 := by
  unfold fold1
  cases e : foldF (strandsOf x) (ch c) with
  | some y =>
    obtain ⟨p, hp, h1, rfl⟩ := foldF_mem e
    obtain ⟨c', h2, h3, _, h4⟩ := strands_ok x p hp
    show p.2.cps.size ≤ 10
    rw [h3]
    rw [← Array.length_toList]
    exact h4
  | none => exact (by decide : 1 ≤ 10)
theorem al_steady {x : Int} {c : Nat} (h : Al x c) : ∀ e ∈ gl c, gl e = [e] := by
  rcases h with ⟨p, hp, h1⟩ | h
  · obtain ⟨c', h2, _, h4, _⟩ := strands_ok x p hp
    have : c' = c := ch_inj (h2.symm.trans h1)
    rw [← this]
    exact h4
  · rw [h]
    intro e he
    simp only [List.mem_singleton] at he
    rw [he, h]
theorem al_small {x : Int} {c : Nat} (h : Al x c) : (gl c).length ≤ 10 := by
  rcases h with ⟨p, hp, h1⟩ | h
  · obtain ⟨c', h2, _, _, h4⟩ := strands_ok x p hp
    have : c' = c := ch_inj (h2.symm.trans h1)
    rw [← this]
    exact h4
  · rw [h]; simp
end Mine
end
section
open PySem PySem.W PyProof.Rows PySem.Calls
set_option Elab.async false
set_option maxRecDepth 100000
set_option maxHeartbeats 1000000
namespace Mine
/- weights -/
def wt (c : Nat) : Nat := max 1 (gl c).length
def Wt (cs : List Nat) : Nat := (cs.map wt).sum
theorem Wt_cons (c : Nat) (cs : List Nat) : Wt (c :: cs) = wt c + Wt cs := rfl
theorem Wt_append (a b : List Nat) : Wt (a ++ b) = Wt a + Wt b := by
  unfold Wt
  rw [List.map_append, List.sum_append]
theorem wt_pos (c : Nat) : 1 ≤ wt c := Nat.le_max_left ..
theorem gl_le_wt (c : Nat) : (gl c).length ≤ wt c := Nat.le_max_right ..
theorem len_le_Wt (cs : List Nat) : cs.length ≤ Wt cs := by
  induction cs with
  | nil => exact Nat.zero_le _
  | cons c cs ih => rw [List.length_cons, Wt_cons]; have := wt_pos c; omega
theorem Wt_steady : ∀ {l : List Nat}, (∀ e ∈ l, gl e = [e]) → Wt l = l.length
  | [], _ => rfl
  | e :: l, h => by
    rw [Wt_cons, List.length_cons, Wt_steady (l := l) fun d hd => h d (.tail _ hd)]
    have : wt e = 1 := by unfold wt; rw [h e (.head _)]; rfl
    omega
theorem part_len (ds : List Nat) (cs : List Nat) : (cs.flatMap fun c => if c ∈ ds then gl c else [c]).length ≤ Wt cs := by
  induction cs with
  | nil => exact Nat.zero_le _
  | cons c cs ih =>
    rw [List.flatMap_cons, List.length_append, Wt_cons]
    have h1 := wt_pos c
    have h2 := gl_le_wt c
    have : (if c ∈ ds then gl c else [c]).length ≤ wt c := by
      split
      · exact h2
      · exact h1
    omega
theorem Wt_gl : ∀ {cs : List Nat}, (∀ c ∈ cs, ∀ e ∈ gl c, gl e = [e]) → Wt (cs.flatMap gl) ≤ Wt cs
  | [], _ => Nat.le_refl _
  | c :: cs, h => by
    rw [List.flatMap_cons, Wt_append, Wt_cons, Wt_steady (h c (.head _))]
    have := Wt_gl (cs := cs) fun d hd => h d (.tail _ hd)
    have := gl_le_wt c
    omega
theorem gl_dot : gl 46 = [46] := by decide +kernel
theorem al_dot (x : Int) : Al x 46 := .inr gl_dot
theorem mem_fit {cs : List Nat} {n : Int} {c : Nat} (h : c ∈ fitC cs n) : c ∈ cs ∨ c = 46 := by
  unfold fitC at h
  split at h
  · exact .inl h
  · rcases List.mem_append.mp h with h | h
    · rcases List.mem_append.mp h with h | h
      · exact .inl (List.mem_of_mem_take h)
      · simp only [List.mem_cons, List.not_mem_nil, or_false, or_self] at h
        exact .inr h
    · exact .inl (List.mem_of_mem_drop h)
theorem Wt_fit (cs : List Nat) (n : Int) : Wt (fitC cs n) ≤ max 3 (Wt cs) := by
  unfold fitC
  split
  · exact Nat.le_max_right ..
  · rename_i hle
    have hdots : Wt [46, 46, 46] = 3 := Wt_steady (by
      intro e he
      simp only [List.mem_cons, List.not_mem_nil, or_false, or_self] at he
      rw [he]; exact gl_dot)
    rw [Wt_append, Wt_append, hdots]
    by_cases h3 : n < 3
    · have e1 : (n - 3).toNat = 0 := by omega
      rw [e1]
      have e2 : cs.take (0 / 2) = [] := by rw [Nat.zero_div]; exact List.take_zero
      have e3 : cs.drop (cs.length - (0 + 1) / 2) = [] := List.drop_eq_nil_of_le (by omega)
      rw [e2, e3]
      exact Nat.le_max_left ..
    · obtain ⟨m, hm⟩ : ∃ m, m = (n - 3).toNat := ⟨_, rfl⟩
      rw [← hm]
      have hlen : m + 3 < cs.length := by omega
      obtain ⟨k, hk⟩ : ∃ k, cs.length - (m + 1) / 2 = m / 2 + k ∧ 3 ≤ k := ⟨cs.length - (m + 1) / 2 - m / 2, by omega, by omega⟩
      rw [hk.1, ← List.drop_drop]
      have h1 : Wt cs = Wt (cs.take (m / 2)) + Wt (cs.drop (m / 2)) := by rw [← Wt_append, List.take_append_drop]
      have h2 : Wt (cs.drop (m / 2)) = Wt ((cs.drop (m / 2)).take k) + Wt ((cs.drop (m / 2)).drop k) := by rw [← Wt_append, List.take_append_drop]
      have h4 := len_le_Wt ((cs.drop (m / 2)).take k)
      rw [List.length_take, List.length_drop] at h4
      have h5 : Wt cs ≤ max 3 (Wt cs) := Nat.le_max_right ..
      omega
/- the steps -/
def InvL (x : Int) (cs : List Nat) : Prop := (∀ c ∈ cs, Al x c) ∧ Wt cs ≤ 1000
theorem take_foldPs (ds : List Nat) (k : Nat) : (foldPs ds).take k = foldPs (ds.take k) := by
  unfold foldPs
  rw [List.map_take]
theorem flat_full {cs ds : List Nat} (h : ∀ c ∈ cs, c ∈ ds) : (cs.flatMap fun c => if c ∈ ds then gl c else [c]) = cs.flatMap gl :=
  flatMap_congr' fun c hc => if_pos (h c hc)
theorem flat_fold {x : Int} {cs : List Nat} (h : ∀ c ∈ cs, Al x c) : (cs.flatMap fun c => (fold1 (foldF (strandsOf x)) c).cps.toList) = cs.flatMap gl :=
  flatMap_congr' fun c hc => by rw [fold1_al (h c hc)]; rfl
theorem step_ok (x : Int) (steps : List (Int × Int)) : StepOk (foldF (strandsOf x)) (InvL x) steps where
  len cs h := Nat.le_trans (len_le_Wt cs) (Nat.le_trans h.2 (by decide))
  bound cs h ds hds k := by
    rw [take_foldPs, repl_all fun c hc => al_steady (h.1 c hc)]
    have e : ∀ l : List Nat, (str l).length = l.length := str_size
    rw [e]
    exact Nat.le_trans (part_len _ cs) (Nat.le_trans h.2 (by decide))
  g cs h c hc := by
    have := al_small (h.1 c (mem_dist.mp hc))
    exact this
  dl cs h := Nat.le_trans (length_dist cs) (Nat.le_trans (len_le_Wt cs) (Nat.le_trans h.2 (by decide)))
  eq cs h p _ := by
    unfold doneT dueC
    by_cases hk : 8 ≤ p.1
    · rw [if_pos hk, if_pos hk]
      exact cram_fit cs _
    · rw [if_neg hk, if_neg hk, flat_fold h.1]
      rw [repl_all fun c hc => al_steady (h.1 c hc), flat_full]
      intro c hc
      split
      · exact List.mem_reverse.mpr (mem_dist.mpr hc)
      · exact mem_dist.mpr hc
  next cs h p _ := by
    unfold dueC
    by_cases hk : 8 ≤ p.1
    · rw [if_pos hk]
      refine ⟨fun c hc => ?_, Nat.le_trans (Wt_fit cs _) (Nat.max_le.mpr ⟨by decide, h.2⟩)⟩
      rcases mem_fit hc with h1 | rfl
      · exact h.1 c h1
      · exact al_dot x
    · rw [if_neg hk, flat_fold h.1]
      refine ⟨fun e he => ?_, Nat.le_trans (Wt_gl fun c hc => al_steady (h.1 c hc)) h.2⟩
      obtain ⟨c, hc, hec⟩ := List.mem_flatMap.mp he
      exact .inr (al_steady (h.1 c hc) e hec)
/- the line -/
theorem length_figsFlat : ∀ (xs : List Int), (xs.flatMap figs).length ≤ 3 * xs.length
  | [] => Nat.le_refl _
  | x :: xs => by
    rw [List.flatMap_cons, List.length_append, List.length_cons]
    have := length_figs x
    have := length_figsFlat xs
    omega
theorem length_figsAll (xs : List Int) : (figsAll xs).length ≤ 40 := by
  unfold figsAll figsOf
  rw [List.length_append, List.length_append]
  have h1 := length_figsFlat (xs.take 8)
  have h2 : (xs.take 8).length ≤ 8 := by rw [List.length_take]; omega
  simp only [List.length_cons, List.length_nil]
  omega
theorem length_strands (x : Int) : (strandsOf x).length = 16 := rfl
theorem line_cs {x : Int} : ∀ {l : List Int}, (∀ f ∈ l, 0 ≤ f ∧ f < 16) → ∃ cs : List Nat, (l.map fun f => ((strandsOf x).getD f.toNat (Str.empty, Str.empty)).1) = cs.map ch ∧ cs.length = l.length ∧ ∀ c ∈ cs, Al x c
  | [], _ => ⟨[], rfl, rfl, fun _ h => nomatch h⟩
  | f :: l, h => by
    obtain ⟨cs, h1, h2, h3⟩ := line_cs (x := x) (l := l) fun e he => h e (.tail _ he)
    have hf := h f (.head _)
    have hlt : f.toNat < (strandsOf x).length := by rw [length_strands]; omega
    have hmem : (strandsOf x).getD f.toNat (Str.empty, Str.empty) ∈ strandsOf x := by
      rw [List.getD_eq_getElem?_getD, List.getElem?_eq_getElem hlt]
      exact List.getElem_mem _
    obtain ⟨c, hc, _⟩ := strands_ok x _ hmem
    refine ⟨c :: cs, by rw [List.map_cons, List.map_cons, h1, hc], by rw [List.length_cons, List.length_cons, h2], ?_⟩
    intro e he
    rcases List.mem_cons.mp he with rfl | he
    · exact .inl ⟨_, hmem, hc⟩
    · exact h3 e he
theorem Wt_small {x : Int} : ∀ {cs : List Nat}, (∀ c ∈ cs, Al x c) → Wt cs ≤ 10 * cs.length
  | [], _ => Nat.le_refl _
  | c :: cs, h => by
    rw [Wt_cons, List.length_cons]
    have h1 := Wt_small (cs := cs) fun d hd => h d (.tail _ hd)
    have h2 : wt c ≤ 10 := Nat.max_le.mpr ⟨by decide, al_small (h c (.head _))⟩
    omega
theorem line_ok (x : Int) (xs : List Int) : InvL x (lineOf (strandsOf x) xs).cps.toList := by
  obtain ⟨cs, h1, h2, h3⟩ := line_cs (x := x) (l := figsAll xs) (figsAll_range xs)
  unfold lineOf
  rw [h1, join_ch]
  refine ⟨h3, ?_⟩
  have h4 := Wt_small h3
  have h5 := length_figsAll xs
  show Wt cs ≤ 1000
  omega
end Mine
end
section
open PySem PySem.W PyProof.Rows
set_option Elab.async false
set_option maxRecDepth 100000
set_option maxHeartbeats 4000000
namespace Mine
theorem law_end {c : ClaimW} {cl : Str → Option Addr} {mean : ExcName → Option Value} {args : List WData} {s₁ : Shared} {h' : Heap} {tk : Nat}
    (hk : ∀ b o, s₁.heap.get? b = some o → h'.get? b = some o) (hg : s₁.gens = #[]) (hr : ∀ cls, c.raises args cls = false) (hp : c.post args (.bool true) args = true) :
    GoodWG c cl mean args s₁ (.ok (.ret (.bool true))) { s₁ with heap := h', toks := tk } :=
  GoodW.toG ⟨.inl ⟨_, _, [], rfl, hr, ReadsW.bool true, hp, fun _ => ⟨List.nodup_nil, fun _ hm => (nomatch hm)⟩⟩, hk, rfl, hg⟩
theorem walk_law : WalkO Q LS XQ YP RL.row.toRowW dLaw [] fun f vs => PySem.call f vs := by
  w_on
  intro w s₀ s₁ mg mb G Y fa o pm cd doc dV kV ho hd hcd hD hmg hg args vals as hpre hlay hrd hwl hlo
  have T := G.T
  clear G
  wrow_args hpre hlay hrd hwl hlo
  rename_i xs _ _ _ _ _ _ _ l vs _ hl _ _ _ hI _ h63 _
  have hn : xs.length ≤ 1000 := by omega
  have key : wpAny (model pw w) callerA (PySem.call (.ref fa) [.ref l]) (BoolEnd s₁ true) (fun _ _ => False) s₁ :=
    law_call (d := 301) (fr := some []) (gs := some []) (un := 4) T Y hmg (by decide) (by decide) hl hI hn (step_ok _ _) (line_ok _ _) (fold1_small _)
  refine wpAny_mono key (fun v s' h => ?_) (fun _ _ x => x.elim)
  obtain ⟨⟨h', tk', rfl, hk⟩, rfl⟩ := h
  exact law_end hk hg (fun _ => rfl) (by wrow_post)
end Mine
end
theorem PySem.Challenge.cw_mq0272_01_holds : PySem.Challenge.rw_mq0272_01.Holds :=
  Mine.head Mine.walk_law
