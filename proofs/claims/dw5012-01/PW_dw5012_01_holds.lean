import PyProof.Rows.All
import Wide.All
import OpenK.AllK
import Wide.FinOn
import PySem.Challenge.RW_dw5012_01
set_option Elab.async false

section
open PySem PySem.W PyProof.Rows
set_option maxRecDepth 100000
namespace Mine

/-- the i-th statement of the text -/
def stm (i : Nat) : Stmt := PySem.Challenge.pw_dw5012_01.main.body.getD i default
def fnArgs : Stmt → Arguments
  | .FunctionDef _ a _ _ _ _ _ _ _ _ => a
  | _ => default
def fnBody : Stmt → List Stmt
  | .FunctionDef _ _ b _ _ _ _ _ _ _ => b
  | _ => []
def fnScope : Stmt → Scope
  | .FunctionDef _ _ _ _ _ _ s _ _ _ => s
  | _ => default
def fnPos : Stmt → Pos
  | .FunctionDef _ _ _ _ _ _ _ _ _ p => p
  | _ => default

/-- the dict display's pairs -/
def dictInts : List (Option PySem.Expr) → List Int
  | some (.Constant (.int k) _ _) :: r => k :: dictInts r
  | _ => []
def dictStrs : List PySem.Expr → List Str
  | .Constant (.str s) _ _ :: r => s :: dictStrs r
  | _ => []
def dictPairs : Stmt → List (Int × Str)
  | .Assign _ (.Dict ks vs _) _ => (dictInts ks).zip (dictStrs vs)
  | _ => []
def entriesFrom : Nat → Nat → List (Int × Str) → List DictEntry
  | _, _, [] => []
  | 0, t, (k, v) :: r => ⟨k, .int k t, .str v (t + 1)⟩ :: entriesFrom 0 (t + 2) r
  | c + 1, t, (k, v) :: r => ⟨k, .int k t, .str v (t + 1)⟩ :: entriesFrom c (t + 3) r
def b3Pairs : List (Int × Str) := dictPairs (stm 3)
def b3Entries : List DictEntry := entriesFrom 646 256 b3Pairs

def K : Params → Frag := fun P =>
  [(nat_lit 2, (Obj.mk Value.none none (Data.dict (List.toArray []) 0) (List.toArray []))),
   (nat_lit 3, (Obj.mk (Value.type "dict") none (Data.dict (List.toArray [(DictEntry.mk (PyData.keyHash P (Str.ofString "__name__")) (Value.str (Str.ofString "__name__") 165) (Value.str (Str.ofString "law_dw5012_01") 2215)), (DictEntry.mk (PyData.keyHash P (Str.ofString "__doc__")) (Value.str (Str.ofString "__doc__") 166) Value.none), (DictEntry.mk (PyData.keyHash P (Str.ofString "__package__")) (Value.str (Str.ofString "__package__") 167) Value.none), (DictEntry.mk (PyData.keyHash P (Str.ofString "__loader__")) (Value.str (Str.ofString "__loader__") 168) (Value.builtin "__main__.__loader__#opaque")), (DictEntry.mk (PyData.keyHash P (Str.ofString "__spec__")) (Value.str (Str.ofString "__spec__") 169) Value.none), (DictEntry.mk (PyData.keyHash P (Str.ofString "__annotations__")) (Value.str (Str.ofString "__annotations__") 170) (Value.ref 6)), (DictEntry.mk (PyData.keyHash P (Str.ofString "__builtins__")) (Value.str (Str.ofString "__builtins__") 171) (Value.ref 4)), (DictEntry.mk (PyData.keyHash P (Str.ofString "__file__")) (Value.str (Str.ofString "__file__") 173) (Value.str (Str.ofString "/claim/cut.py") 172)), (DictEntry.mk (PyData.keyHash P (Str.ofString "__cached__")) (Value.str (Str.ofString "__cached__") 174) Value.none), (DictEntry.mk (PyData.keyHash P (Str.ofString "b1_set")) (Value.str (Str.ofString "b1_set") 248) (Value.ref 22)), (DictEntry.mk (PyData.keyHash P (Str.ofString "in_table_b1")) (Value.str (Str.ofString "in_table_b1") 255) (Value.ref 32)), (DictEntry.mk (PyData.keyHash P (Str.ofString "b3_exceptions")) (Value.str (Str.ofString "b3_exceptions") 2206) (Value.ref 33)), (DictEntry.mk (PyData.keyHash P (Str.ofString "map_table_b3")) (Value.str (Str.ofString "map_table_b3") 2214) (Value.ref 78)), (DictEntry.mk (PyData.keyHash P (Str.ofString "_law_FORMS")) (Value.str (Str.ofString "_law_FORMS") 2262) (Value.ref 119)), (DictEntry.mk (PyData.keyHash P (Str.ofString "_law_read")) (Value.str (Str.ofString "_law_read") 2278) (Value.ref 126)), (DictEntry.mk (PyData.keyHash P (Str.ofString "_law_borders")) (Value.str (Str.ofString "_law_borders") 2288) (Value.ref 133)), (DictEntry.mk (PyData.keyHash P (Str.ofString "_law_automaton")) (Value.str (Str.ofString "_law_automaton") 2306) (Value.ref 140)), (DictEntry.mk (PyData.keyHash P (Str.ofString "law")) (Value.str (Str.ofString "law") 2312) (Value.ref 145))]) 18) (List.toArray []))),
   (nat_lit 6, (Obj.mk (Value.type "dict") none (Data.dict (List.toArray []) 0) (List.toArray []))),
   (nat_lit 22, (Obj.mk (Value.type "set") none (Data.set (List.toArray [((65024 : Int), (Value.int (65024 : Int) 205)), ((65025 : Int), (Value.int (65025 : Int) 206)), ((65026 : Int), (Value.int (65026 : Int) 207)), ((65027 : Int), (Value.int (65027 : Int) 208)), ((65028 : Int), (Value.int (65028 : Int) 209)), ((65029 : Int), (Value.int (65029 : Int) 210)), ((6150 : Int), (Value.int (6150 : Int) 191)), ((65030 : Int), (Value.int (65030 : Int) 211)), ((65031 : Int), (Value.int (65031 : Int) 212)), ((65032 : Int), (Value.int (65032 : Int) 213)), ((65033 : Int), (Value.int (65033 : Int) 214)), ((6155 : Int), (Value.int (6155 : Int) 192)), ((6156 : Int), (Value.int (6156 : Int) 193)), ((6157 : Int), (Value.int (6157 : Int) 194)), ((8203 : Int), (Value.int (8203 : Int) 195)), ((8204 : Int), (Value.int (8204 : Int) 196)), ((8205 : Int), (Value.int (8205 : Int) 197)), ((65034 : Int), (Value.int (65034 : Int) 215)), ((65035 : Int), (Value.int (65035 : Int) 216)), ((65036 : Int), (Value.int (65036 : Int) 217)), ((65037 : Int), (Value.int (65037 : Int) 218)), ((65038 : Int), (Value.int (65038 : Int) 219)), ((65039 : Int), (Value.int (65039 : Int) 220)), ((173 : Int), (Value.int (173 : Int) 189)), ((847 : Int), (Value.int (847 : Int) 190)), ((8288 : Int), (Value.int (8288 : Int) 198)), ((65279 : Int), (Value.int (65279 : Int) 199))]) 29 (SetTable.mk 127 (List.toArray [0, 1, 2, 3, 4, 5, 6, 7, 8, 9, 10, 11, 12, 13, 14, 15, 16, 17, 18, 19, 20, 21, 22, 45, 79, 96, 127]) (List.toArray []) 0 (Bool.not (Params.followText P "set-order")) 2 Bool.true)) (List.toArray []))),
   (nat_lit 26, (Obj.mk (Value.type "tuple") none (Data.seq (List.toArray []) 0) (List.toArray []))),
   (nat_lit 28, (Obj.mk (Value.type "tuple") none (Data.seq (List.toArray [(Value.str (Str.ofString "code") 252)]) 0) (List.toArray []))),
   (nat_lit 29, (Obj.mk (Value.type "tuple") none (Data.seq (List.toArray []) 0) (List.toArray []))),
   (nat_lit 31, (Obj.mk (Value.type "code") none (Data.fields (List.toArray [(Value.str (Str.ofString "in_table_b1") 249), (Value.str (Str.ofString "in_table_b1") 250), (Value.str (Str.ofString "/claim/cut.py") 251), (Value.int (3 : Int) 0), (Value.int (1 : Int) 0), (Value.int (0 : Int) 0), (Value.int (0 : Int) 0), (Value.int (3 : Int) 0), (Value.ref 26), (Value.bool Bool.true), (Value.int (181 : Int) 0), (Value.ref 27), Value.none, (Value.ref 28), (Value.ref 29), (Value.ref 30), (Value.int (253 : Int) 0), (Value.int (3 : Int) 0), (Value.str (Str.ofString "/claim/cut.py") 254)])) (List.toArray []))),
   (nat_lit 32, (Obj.mk (Value.type "function") none (Data.func (FuncData.mk (Str.ofString "in_table_b1") (Str.ofString "in_table_b1") (fnArgs (stm 2)) (FuncBody.stmts (fnBody (stm 2))) (fnScope (stm 2)) 3 [] Value.none Value.none Value.none (Value.str (Str.ofString "cpy313.stringprep") 187) none (Value.ref 31) Value.none 0)) (List.toArray []))),
   (nat_lit 33, (Obj.mk (Value.type "dict") none (Data.dict (List.toArray b3Entries) 650) (List.toArray []))),
   (nat_lit 72, (Obj.mk (Value.type "tuple") none (Data.seq (List.toArray []) 0) (List.toArray []))),
   (nat_lit 74, (Obj.mk (Value.type "tuple") none (Data.seq (List.toArray [(Value.str (Str.ofString "code") 2210), (Value.str (Str.ofString "r") 2211)]) 0) (List.toArray []))),
   (nat_lit 75, (Obj.mk (Value.type "tuple") none (Data.seq (List.toArray []) 0) (List.toArray []))),
   (nat_lit 77, (Obj.mk (Value.type "code") none (Data.fields (List.toArray [(Value.str (Str.ofString "map_table_b3") 2207), (Value.str (Str.ofString "map_table_b3") 2208), (Value.str (Str.ofString "/claim/cut.py") 2209), (Value.int (6 : Int) 0), (Value.int (1 : Int) 0), (Value.int (0 : Int) 0), (Value.int (0 : Int) 0), (Value.int (3 : Int) 0), (Value.ref 72), (Value.bool Bool.true), (Value.int (181 : Int) 0), (Value.ref 73), Value.none, (Value.ref 74), (Value.ref 75), (Value.ref 76), (Value.int (2212 : Int) 0), (Value.int (6 : Int) 0), (Value.str (Str.ofString "/claim/cut.py") 2213)])) (List.toArray []))),
   (nat_lit 78, (Obj.mk (Value.type "function") none (Data.func (FuncData.mk (Str.ofString "map_table_b3") (Str.ofString "map_table_b3") (fnArgs (stm 4)) (FuncBody.stmts (fnBody (stm 4))) (fnScope (stm 4)) 3 [] Value.none Value.none Value.none (Value.str (Str.ofString "cpy313.stringprep") 187) none (Value.ref 77) Value.none 0)) (List.toArray []))),
   (nat_lit 79, (Obj.mk (Value.type "tuple") none (Data.seq (List.toArray [(Value.int (0 : Int) 2218)]) 0) (List.toArray []))),
   (nat_lit 80, (Obj.mk (Value.type "tuple") none (Data.seq (List.toArray [(Value.int (115 : Int) 2217), (Value.ref 79)]) 0) (List.toArray []))),
   (nat_lit 81, (Obj.mk (Value.type "tuple") none (Data.seq (List.toArray [(Value.int (0 : Int) 2220)]) 0) (List.toArray []))),
   (nat_lit 82, (Obj.mk (Value.type "tuple") none (Data.seq (List.toArray [(Value.int (83 : Int) 2219), (Value.ref 81)]) 0) (List.toArray []))),
   (nat_lit 83, (Obj.mk (Value.type "tuple") none (Data.seq (List.toArray [(Value.int (0 : Int) 2222)]) 0) (List.toArray []))),
   (nat_lit 84, (Obj.mk (Value.type "tuple") none (Data.seq (List.toArray [(Value.int (383 : Int) 2221), (Value.ref 83)]) 0) (List.toArray []))),
   (nat_lit 85, (Obj.mk (Value.type "tuple") none (Data.seq (List.toArray [(Value.int (0 : Int) 2224), (Value.int (0 : Int) 2225)]) 0) (List.toArray []))),
   (nat_lit 86, (Obj.mk (Value.type "tuple") none (Data.seq (List.toArray [(Value.int (223 : Int) 2223), (Value.ref 85)]) 0) (List.toArray []))),
   (nat_lit 87, (Obj.mk (Value.type "tuple") none (Data.seq (List.toArray [(Value.int (0 : Int) 2227), (Value.int (1 : Int) 2228)]) 0) (List.toArray []))),
   (nat_lit 88, (Obj.mk (Value.type "tuple") none (Data.seq (List.toArray [(Value.int (64261 : Int) 2226), (Value.ref 87)]) 0) (List.toArray []))),
   (nat_lit 89, (Obj.mk (Value.type "tuple") none (Data.seq (List.toArray [(Value.int (0 : Int) 2230), (Value.int (1 : Int) 2231)]) 0) (List.toArray []))),
   (nat_lit 90, (Obj.mk (Value.type "tuple") none (Data.seq (List.toArray [(Value.int (64262 : Int) 2229), (Value.ref 89)]) 0) (List.toArray []))),
   (nat_lit 91, (Obj.mk (Value.type "tuple") none (Data.seq (List.toArray [(Value.int (1 : Int) 2233)]) 0) (List.toArray []))),
   (nat_lit 92, (Obj.mk (Value.type "tuple") none (Data.seq (List.toArray [(Value.int (116 : Int) 2232), (Value.ref 91)]) 0) (List.toArray []))),
   (nat_lit 93, (Obj.mk (Value.type "tuple") none (Data.seq (List.toArray [(Value.int (1 : Int) 2235)]) 0) (List.toArray []))),
   (nat_lit 94, (Obj.mk (Value.type "tuple") none (Data.seq (List.toArray [(Value.int (84 : Int) 2234), (Value.ref 93)]) 0) (List.toArray []))),
   (nat_lit 95, (Obj.mk (Value.type "tuple") none (Data.seq (List.toArray [(Value.int (1 : Int) 2237)]) 0) (List.toArray []))),
   (nat_lit 96, (Obj.mk (Value.type "tuple") none (Data.seq (List.toArray [(Value.int (119827 : Int) 2236), (Value.ref 95)]) 0) (List.toArray []))),
   (nat_lit 97, (Obj.mk (Value.type "tuple") none (Data.seq (List.toArray [(Value.int (2 : Int) 2239)]) 0) (List.toArray []))),
   (nat_lit 98, (Obj.mk (Value.type "tuple") none (Data.seq (List.toArray [(Value.int (102 : Int) 2238), (Value.ref 97)]) 0) (List.toArray []))),
   (nat_lit 99, (Obj.mk (Value.type "tuple") none (Data.seq (List.toArray [(Value.int (2 : Int) 2241)]) 0) (List.toArray []))),
   (nat_lit 100, (Obj.mk (Value.type "tuple") none (Data.seq (List.toArray [(Value.int (70 : Int) 2240), (Value.ref 99)]) 0) (List.toArray []))),
   (nat_lit 101, (Obj.mk (Value.type "tuple") none (Data.seq (List.toArray [(Value.int (2 : Int) 2243), (Value.int (2 : Int) 2244)]) 0) (List.toArray []))),
   (nat_lit 102, (Obj.mk (Value.type "tuple") none (Data.seq (List.toArray [(Value.int (64256 : Int) 2242), (Value.ref 101)]) 0) (List.toArray []))),
   (nat_lit 103, (Obj.mk (Value.type "tuple") none (Data.seq (List.toArray [(Value.int (2 : Int) 2246), (Value.int (3 : Int) 2247)]) 0) (List.toArray []))),
   (nat_lit 104, (Obj.mk (Value.type "tuple") none (Data.seq (List.toArray [(Value.int (64257 : Int) 2245), (Value.ref 103)]) 0) (List.toArray []))),
   (nat_lit 105, (Obj.mk (Value.type "tuple") none (Data.seq (List.toArray [(Value.int (2 : Int) 2249), (Value.int (2 : Int) 2250), (Value.int (3 : Int) 2251)]) 0) (List.toArray []))),
   (nat_lit 106, (Obj.mk (Value.type "tuple") none (Data.seq (List.toArray [(Value.int (64259 : Int) 2248), (Value.ref 105)]) 0) (List.toArray []))),
   (nat_lit 107, (Obj.mk (Value.type "tuple") none (Data.seq (List.toArray [(Value.int (3 : Int) 2253)]) 0) (List.toArray []))),
   (nat_lit 108, (Obj.mk (Value.type "tuple") none (Data.seq (List.toArray [(Value.int (105 : Int) 2252), (Value.ref 107)]) 0) (List.toArray []))),
   (nat_lit 109, (Obj.mk (Value.type "tuple") none (Data.seq (List.toArray [(Value.int (3 : Int) 2255)]) 0) (List.toArray []))),
   (nat_lit 110, (Obj.mk (Value.type "tuple") none (Data.seq (List.toArray [(Value.int (73 : Int) 2254), (Value.ref 109)]) 0) (List.toArray []))),
   (nat_lit 111, (Obj.mk (Value.type "tuple") none (Data.seq (List.toArray [(Value.int (3 : Int) 2257)]) 0) (List.toArray []))),
   (nat_lit 112, (Obj.mk (Value.type "tuple") none (Data.seq (List.toArray [(Value.int (8464 : Int) 2256), (Value.ref 111)]) 0) (List.toArray []))),
   (nat_lit 113, (Obj.mk (Value.type "tuple") none (Data.seq (List.toArray [(Value.int (3 : Int) 2259)]) 0) (List.toArray []))),
   (nat_lit 114, (Obj.mk (Value.type "tuple") none (Data.seq (List.toArray [(Value.int (119816 : Int) 2258), (Value.ref 113)]) 0) (List.toArray []))),
   (nat_lit 115, (Obj.mk (Value.type "tuple") none (Data.seq (List.toArray []) 0) (List.toArray []))),
   (nat_lit 116, (Obj.mk (Value.type "tuple") none (Data.seq (List.toArray [(Value.int (173 : Int) 2260), (Value.ref 115)]) 0) (List.toArray []))),
   (nat_lit 117, (Obj.mk (Value.type "tuple") none (Data.seq (List.toArray []) 0) (List.toArray []))),
   (nat_lit 118, (Obj.mk (Value.type "tuple") none (Data.seq (List.toArray [(Value.int (65039 : Int) 2261), (Value.ref 117)]) 0) (List.toArray []))),
   (nat_lit 119, (Obj.mk (Value.type "tuple") none (Data.seq (List.toArray [(Value.ref 80), (Value.ref 82), (Value.ref 84), (Value.ref 86), (Value.ref 88), (Value.ref 90), (Value.ref 92), (Value.ref 94), (Value.ref 96), (Value.ref 98), (Value.ref 100), (Value.ref 102), (Value.ref 104), (Value.ref 106), (Value.ref 108), (Value.ref 110), (Value.ref 112), (Value.ref 114), (Value.ref 116), (Value.ref 118)]) 0) (List.toArray []))),
   (nat_lit 120, (Obj.mk (Value.type "tuple") none (Data.seq (List.toArray []) 0) (List.toArray []))),
   (nat_lit 122, (Obj.mk (Value.type "tuple") none (Data.seq (List.toArray [(Value.str (Str.ofString "text") 2266), (Value.str (Str.ofString "word") 2267), (Value.str (Str.ofString "folded") 2268), (Value.str (Str.ofString "owners") 2269), (Value.str (Str.ofString "k") 2270), (Value.str (Str.ofString "fold") 2271), (Value.str (Str.ofString "finds") 2272), (Value.str (Str.ofString "n") 2273), (Value.str (Str.ofString "p") 2274), (Value.str (Str.ofString "whole") 2275)]) 0) (List.toArray []))),
   (nat_lit 123, (Obj.mk (Value.type "tuple") none (Data.seq (List.toArray []) 0) (List.toArray []))),
   (nat_lit 125, (Obj.mk (Value.type "code") none (Data.fields (List.toArray [(Value.str (Str.ofString "_law_read") 2263), (Value.str (Str.ofString "_law_read") 2264), (Value.str (Str.ofString "/claim/cut.py") 2265), (Value.int (13 : Int) 0), (Value.int (2 : Int) 0), (Value.int (0 : Int) 0), (Value.int (0 : Int) 0), (Value.int (3 : Int) 0), (Value.ref 120), (Value.bool Bool.true), (Value.int (181 : Int) 0), (Value.ref 121), Value.none, (Value.ref 122), (Value.ref 123), (Value.ref 124), (Value.int (2276 : Int) 0), (Value.int (13 : Int) 0), (Value.str (Str.ofString "/claim/cut.py") 2277)])) (List.toArray []))),
   (nat_lit 126, (Obj.mk (Value.type "function") none (Data.func (FuncData.mk (Str.ofString "_law_read") (Str.ofString "_law_read") (fnArgs (stm 7)) (FuncBody.stmts (fnBody (stm 7))) (fnScope (stm 7)) 3 [] Value.none Value.none Value.none (Value.str (Str.ofString "law_dw5012_01") 2215) none (Value.ref 125) Value.none 0)) (List.toArray []))),
   (nat_lit 127, (Obj.mk (Value.type "tuple") none (Data.seq (List.toArray []) 0) (List.toArray []))),
   (nat_lit 129, (Obj.mk (Value.type "tuple") none (Data.seq (List.toArray [(Value.str (Str.ofString "word") 2282), (Value.str (Str.ofString "table") 2283), (Value.str (Str.ofString "k") 2284), (Value.str (Str.ofString "i") 2285)]) 0) (List.toArray []))),
   (nat_lit 130, (Obj.mk (Value.type "tuple") none (Data.seq (List.toArray []) 0) (List.toArray []))),
   (nat_lit 132, (Obj.mk (Value.type "code") none (Data.fields (List.toArray [(Value.str (Str.ofString "_law_borders") 2279), (Value.str (Str.ofString "_law_borders") 2280), (Value.str (Str.ofString "/claim/cut.py") 2281), (Value.int (28 : Int) 0), (Value.int (1 : Int) 0), (Value.int (0 : Int) 0), (Value.int (0 : Int) 0), (Value.int (3 : Int) 0), (Value.ref 127), (Value.bool Bool.true), (Value.int (181 : Int) 0), (Value.ref 128), Value.none, (Value.ref 129), (Value.ref 130), (Value.ref 131), (Value.int (2286 : Int) 0), (Value.int (28 : Int) 0), (Value.str (Str.ofString "/claim/cut.py") 2287)])) (List.toArray []))),
   (nat_lit 133, (Obj.mk (Value.type "function") none (Data.func (FuncData.mk (Str.ofString "_law_borders") (Str.ofString "_law_borders") (fnArgs (stm 8)) (FuncBody.stmts (fnBody (stm 8))) (fnScope (stm 8)) 3 [] Value.none Value.none Value.none (Value.str (Str.ofString "law_dw5012_01") 2215) none (Value.ref 132) Value.none 0)) (List.toArray []))),
   (nat_lit 134, (Obj.mk (Value.type "tuple") none (Data.seq (List.toArray []) 0) (List.toArray []))),
   (nat_lit 136, (Obj.mk (Value.type "tuple") none (Data.seq (List.toArray [(Value.str (Str.ofString "forms") 2292), (Value.str (Str.ofString "word") 2293), (Value.str (Str.ofString "table") 2294), (Value.str (Str.ofString "finds") 2295), (Value.str (Str.ofString "starts") 2296), (Value.str (Str.ofString "k") 2297), (Value.str (Str.ofString "place") 2298), (Value.str (Str.ofString "owner") 2299), (Value.str (Str.ofString "letters") 2300), (Value.str (Str.ofString "at") 2301), (Value.str (Str.ofString "first") 2302), (Value.str (Str.ofString "begins") 2303)]) 0) (List.toArray []))),
   (nat_lit 137, (Obj.mk (Value.type "tuple") none (Data.seq (List.toArray []) 0) (List.toArray []))),
   (nat_lit 139, (Obj.mk (Value.type "code") none (Data.fields (List.toArray [(Value.str (Str.ofString "_law_automaton") 2289), (Value.str (Str.ofString "_law_automaton") 2290), (Value.str (Str.ofString "/claim/cut.py") 2291), (Value.int (38 : Int) 0), (Value.int (2 : Int) 0), (Value.int (0 : Int) 0), (Value.int (0 : Int) 0), (Value.int (3 : Int) 0), (Value.ref 134), (Value.bool Bool.true), (Value.int (181 : Int) 0), (Value.ref 135), Value.none, (Value.ref 136), (Value.ref 137), (Value.ref 138), (Value.int (2304 : Int) 0), (Value.int (38 : Int) 0), (Value.str (Str.ofString "/claim/cut.py") 2305)])) (List.toArray []))),
   (nat_lit 140, (Obj.mk (Value.type "function") none (Data.func (FuncData.mk (Str.ofString "_law_automaton") (Str.ofString "_law_automaton") (fnArgs (stm 9)) (FuncBody.stmts (fnBody (stm 9))) (fnScope (stm 9)) 3 [] Value.none Value.none Value.none (Value.str (Str.ofString "law_dw5012_01") 2215) none (Value.ref 139) Value.none 0)) (List.toArray []))),
   (nat_lit 141, (Obj.mk (Value.type "tuple") none (Data.seq (List.toArray []) 0) (List.toArray []))),
   (nat_lit 144, (Obj.mk (Value.type "code") none (Data.fields (List.toArray [(Value.str (Str.ofString "law") 2307), (Value.str (Str.ofString "law") 2308), (Value.str (Str.ofString "/claim/cut.py") 2309), (Value.int (58 : Int) 0), (Value.int (1 : Int) 0), (Value.int (0 : Int) 0), (Value.int (0 : Int) 0), (Value.int (3 : Int) 0), (Value.ref 141), (Value.bool Bool.true), (Value.int (181 : Int) 0), (Value.ref 142), Value.none, Value.none, Value.none, (Value.ref 143), (Value.int (2310 : Int) 0), (Value.int (58 : Int) 0), (Value.str (Str.ofString "/claim/cut.py") 2311)])) (List.toArray []))),
   (nat_lit 145, (Obj.mk (Value.type "function") none (Data.func (FuncData.mk (Str.ofString "law") (Str.ofString "law") (fnArgs (stm 10)) (FuncBody.stmts (fnBody (stm 10))) (fnScope (stm 10)) 3 [] Value.none Value.none Value.none (Value.str (Str.ofString "law_dw5012_01") 2215) none (Value.ref 144) Value.none 0)) (List.toArray [])))]

def as : List Addr := [2, 3, 6, 22, 26, 28, 29, 31, 32, 33, 72, 74, 75, 77, 78, 79, 80, 81, 82, 83, 84, 85, 86, 87, 88, 89, 90, 91, 92, 93, 94, 95, 96, 97, 98, 99, 100, 101, 102, 103, 104, 105, 106, 107, 108, 109, 110, 111, 112, 113, 114, 115, 116, 117, 118, 119, 120, 122, 123, 125, 126, 127, 129, 130, 132, 133, 134, 136, 137, 139, 140, 141, 144, 145]
theorem as_eq : ∀ P, as = (K P).map (·.1) := fun _ => by kernel_rfl
def q : Program := { PySem.Challenge.pw_dw5012_01 with main := { PySem.Challenge.pw_dw5012_01.main with body := [stm 0, stm 2, stm 4, stm 5, stm 6, stm 7, stm 8, stm 9, stm 10] } }
def loose : List Str := [Str.ofString "b1_set", Str.ofString "b3_exceptions"]
def dLaw : DefRec := ⟨Str.ofString "law", fnArgs (stm 10), fnBody (stm 10), fnScope (stm 10), fnPos (stm 10)⟩
abbrev WalkGoal : Prop := WalkO q loose (XL q []) (kHook K as as_eq).says PySem.Challenge.rw_dw5012_01.row.toRowW dLaw [] (fun f vs => PySem.call f vs)
end Mine
end

section
open PySem PySem.W PyProof.Rows PyProof.V PySem.Calls
set_option maxRecDepth 100000
namespace Mine
abbrev pw : Program := PySem.Challenge.rw_dw5012_01.row.prog
abbrev Led := List (Addr × Obj)
abbrev Mp := Str → Option Value
abbrev upd (m : Mp) (x : Str) (v : Value) : Mp := fun y => if y = x then some v else m y

/-- what a def's frame knows: its names, what it has made; the frozen part stays as it is -/
structure Wf (g : Heap) (L : Addr) (fz : Led) (h : Heap) (m : Mp) (nw : Led) : Prop where
  fr : Fr g L h m
  ns : News g L h (nw ++ fz)
  nd : ((nw ++ fz).map (·.1)).Nodup

def Wp {α : Type} (w : World) (A : Around) (g : Heap) (L : Addr) (fz : Led) (m : Mp) (nw : Led) (t : Sem α) (Q : α → Mp → Led → Prop) : Prop :=
  ∀ (s : Shared) (Q' : α → Shared → Prop), Wf g L fz s.heap m nw →
    (∀ a m' nw' h' tk', Q a m' nw' → Wf g L fz h' m' nw' → Q' a { s with heap := h', toks := tk' }) →
    wpAny (model pw w) A t Q' (fun _ _ => False) s

section
variable {α β : Type} {w : World} {A : Around} {g : Heap} {L : Addr} {fz : Led} {m : Mp} {nw : Led} {env : Env}

theorem Wf.mem {h : Heap} (H : Wf g L fz h m nw) {p : Addr × Obj} (hp : p ∈ nw) : h.get? p.1 = some p.2 := (H.ns p (List.mem_append_left _ hp)).1

theorem Wp_pure {a : α} {Q : α → Mp → Led → Prop} (h : Q a m nw) : Wp w A g L fz m nw (pure a) Q :=
  fun s _ H k => wpAny_pure (k a m nw s.heap s.toks h H)
theorem Wp_bind {t : Sem α} {f : α → Sem β} {Q : β → Mp → Led → Prop} (h : Wp w A g L fz m nw t (fun a m' nw' => Wp w A g L fz m' nw' (f a) Q)) : Wp w A g L fz m nw (t >>= f) Q :=
  fun s Q' H k => wpAny_bind (h s _ H fun _ _ _ _ _ ha H' => ha _ Q' H' k)
theorem Wp_mono {t : Sem α} {Q R : α → Mp → Led → Prop} (h : Wp w A g L fz m nw t Q) (hr : ∀ a m' nw', Q a m' nw' → R a m' nw') : Wp w A g L fz m nw t R :=
  fun s Q' H k => h s Q' H fun a m' nw' h' tk' hq H' => k a m' nw' h' tk' (hr a m' nw' hq) H'

-- constants, names
theorem Wp_int {i : Int} {k : Nat} {pos : Pos} {Q : Value → Mp → Led → Prop} (h : ∀ t, Q (.int i t) m nw) : Wp w A g L fz m nw (eval (.Constant (.int i) k pos) env) Q :=
  fun s _ H kk => wpAny_Constant_int (kk _ m nw s.heap _ (h _) H)
theorem Wp_str {x : Str} {k : Nat} {pos : Pos} {Q : Value → Mp → Led → Prop} (h : ∀ t, Q (.str x t) m nw) : Wp w A g L fz m nw (eval (.Constant (.str x) k pos) env) Q :=
  fun s _ H kk => Constant_str (kk _ m nw s.heap _ (h _) H)
theorem Wp_none {k : Nat} {pos : Pos} {Q : Value → Mp → Led → Prop} (h : Q .none m nw) : Wp w A g L fz m nw (eval (.Constant .none k pos) env) Q :=
  fun s _ H kk => Constant_none (kk _ m nw s.heap s.toks h H)
theorem Wp_loadName {x : Str} {v : Value} {Q : Value → Mp → Led → Prop} (hL : env.locals = L) (hk : env.scope.kind = .function) (hl : env.kindOf x = some .local) (hv : m x = some v) (h : Q v m nw) :
    Wp w A g L fz m nw (loadName env x) Q   := by
  subst hL
  exact fun s _ H kk => wpAny_loadName_local hk hl H.fr.ns hv (kk v m nw s.heap s.toks h H)
theorem Wp_name {x : Str} {pos : Pos} {v : Value} {Q : Value → Mp → Led → Prop} (hL : env.locals = L) (hk : env.scope.kind = .function) (hl : env.kindOf x = some .local) (hv : m x = some v) (h : Q v m nw)
    (hd : (x == ("__debug__" : Str)) = false) : Wp w A g L fz m nw (eval (.Name x pos) env) Q   := by
  subst hL
  exact fun s _ H kk => wpAny_Name (wpAny_loadName_local hk hl H.fr.ns hv (kk v m nw s.heap s.toks h H)) hd

/-- what a frame's ground knows -/
structure Gd (w : World) (g : Heap) : Prop where
  ex : ∃ mean mg mb, Top q (looseW q loose) mean mg mb g
  inK : (K w.params).In g
theorem Wp_glob {x : Str} {pos : Pos} {v : Value} {Q : Value → Mp → Led → Prop} (G : Gd w g) (e : nsIn (K w.params) mainGlobals x = some (some v)) (h : Q v m nw)
    (hk : env.scope.kind = .function) (hx : env.kindOf x = some .globalImplicit) (hg : env.globals = mainGlobals) (hd : (x == ("__debug__" : Str)) = false) :
    Wp w A g L fz m nw (eval (.Name x pos) env) Q := fun s _ H kk => by
  obtain ⟨mean, mg, mb, T⟩ := G.ex
  have TT := topRead_of T
  exact Name_function_global hk hx (loadGlobal_global (env := env) (by rw [hg]; exact TT.g.keeps H.fr.keep) (mg_of G.inK TT.g e) (kk v m nw s.heap s.toks h H)) hd
theorem Wp_blt {x : Str} {pos : Pos} {v : Value} {Q : Value → Mp → Led → Prop} (G : Gd w g) (e : nsIn (K w.params) mainGlobals x = some none) (hv : bootBuiltins x = some v) (hn : x ≠ "__name__") (h : Q v m nw)
    (hk : env.scope.kind = .function) (hx : env.kindOf x = some .globalImplicit) (hg : env.globals = mainGlobals) (hb : env.builtins = builtinsNs) (hd : (x == ("__debug__" : Str)) = false) :
    Wp w A g L fz m nw (eval (.Name x pos) env) Q := fun s _ H kk => by
  obtain ⟨mean, mg, mb, T⟩ := G.ex
  have TT := topRead_of T
  exact Name_function_global hk hx (loadGlobal_builtin (env := env) (by rw [hg]; exact TT.g.keeps H.fr.keep) (mg_none_of G.inK TT.g e) (by rw [hb]; exact TT.b.keeps H.fr.keep) ((TT.builtins x hn).trans hv) (kk v m nw s.heap s.toks h H)) hd

-- expressions
theorem Wp_binop {l r : PySem.Expr} {op : Operator} {pos : Pos} {Q : Value → Mp → Led → Prop}
    (h : Wp w A g L fz m nw (eval l env) fun a m₁ n₁ => Wp w A g L fz m₁ n₁ (eval r env) fun b m₂ n₂ => Wp w A g L fz m₂ n₂ (binaryOp op a b) Q) : Wp w A g L fz m nw (eval (.BinOp l op r pos) env) Q :=
  fun s Q' H k => wpAny_BinOp (h s _ H fun _ _ _ _ _ ha H₁ => ha _ _ H₁ fun _ _ _ _ _ hb H₂ => hb _ _ H₂ k)
theorem Wp_cmp {l r : PySem.Expr} {op : CmpOp} {pos : Pos} {Q : Value → Mp → Led → Prop} (hm : behindInMarks op r = false)
    (h : Wp w A g L fz m nw (eval l env) fun a m₁ n₁ => Wp w A g L fz m₁ n₁ (eval r env) fun b m₂ n₂ => Wp w A g L fz m₂ n₂ (compareOp op a b) Q) : Wp w A g L fz m nw (eval (.Compare l [op] [r] pos) env) Q :=
  fun s Q' H k => wpAny_Compare1 (h s _ H fun _ _ _ _ _ ha H₁ => ha _ _ H₁ fun _ _ _ _ _ hb H₂ => hb _ _ H₂ k) hm
theorem Wp_tcmp {l r : PySem.Expr} {op : CmpOp} {pos : Pos} {whole : Sem Value} {Q : Bool → Mp → Led → Prop} (hm : behindInMarks op r = false)
    (h : Wp w A g L fz m nw (eval l env) fun a m₁ n₁ => Wp w A g L fz m₁ n₁ (eval r env) fun b m₂ n₂ => Wp w A g L fz m₂ n₂ (compareOp op a b) fun c m₃ n₃ => Wp w A g L fz m₃ n₃ (truthy c) Q) :
    Wp w A g L fz m nw (PySem.isTrue (.Compare l [op] [r] pos) env whole) Q :=
  fun s Q' H k => wpAny_isTrue_Compare1 (h s _ H fun _ _ _ _ _ ha H₁ => ha _ _ H₁ fun _ _ _ _ _ hb H₂ => hb _ _ H₂ fun _ _ _ _ _ hc H₃ => hc _ _ H₃ k) hm
theorem Wp_truthy {b : Bool} {Q : Bool → Mp → Led → Prop} (h : Q b m nw) : Wp w A g L fz m nw (truthy (.bool b)) Q :=
  fun s _ H k => wpAny_truthy_bool (k b m nw s.heap s.toks h H)
theorem Wp_ifexp {test body orelse : PySem.Expr} {pos : Pos} {Q : Value → Mp → Led → Prop}
    (h : Wp w A g L fz m nw (PySem.isTrue test env (eval test env)) fun c m₁ n₁ => if c then Wp w A g L fz m₁ n₁ (eval body env) Q else Wp w A g L fz m₁ n₁ (eval orelse env) Q) : Wp w A g L fz m nw (eval (.IfExp test body orelse pos) env) Q :=
  fun s Q' H k => IfExp_ (h s _ H fun c _ _ _ _ hc H₁ => by cases c <;> exact hc _ Q' H₁ k)
theorem Wp_tnot {x : PySem.Expr} {pos : Pos} {whole : Sem Value} {Q : Bool → Mp → Led → Prop} (h : Wp w A g L fz m nw (PySem.isTrue x env (eval x env)) fun c m₁ n₁ => Q (!c) m₁ n₁) : Wp w A g L fz m nw (PySem.isTrue (.UnaryOp .Not x pos) env whole) Q :=
  fun s Q' H k => isTrue_not (h s _ H fun c _ _ _ _ hc H₁ => k (!c) _ _ _ _ hc H₁)
theorem Wp_tplain {e : PySem.Expr} {whole : Sem Value} {Q : Bool → Mp → Led → Prop} (he : PySem.isTrue e env whole = (do let v ← whole; standAt e.pos; holding [v] (truthy v)))
    (h : Wp w A g L fz m nw whole fun v m₁ n₁ => Wp w A g L fz m₁ n₁ (truthy v) Q) : Wp w A g L fz m nw (PySem.isTrue e env whole) Q :=
  fun s Q' H k => isTrue_plain (h s _ H fun _ _ _ _ _ hv H₁ => hv _ Q' H₁ k) he
theorem Wp_tand {x : PySem.Expr} {rest : List PySem.Expr} {pos : Pos} {whole : Sem Value} {Q : Bool → Mp → Led → Prop}
    (h : Wp w A g L fz m nw (PySem.isTrue x env (eval x env)) fun c m₁ n₁ => if c then Wp w A g L fz m₁ n₁ (PySem.isTrue (.BoolOp .And rest pos) env whole) Q else Q false m₁ n₁) : Wp w A g L fz m nw (PySem.isTrue (.BoolOp .And (x :: rest) pos) env whole) Q :=
  fun s Q' H k => isTrue_and (h s _ H fun c _ _ _ _ hc H₁ => by cases c with
    | false => exact k _ _ _ _ _ hc H₁
    | true => exact hc _ Q' H₁ k)
theorem Wp_tand_nil {pos : Pos} {whole : Sem Value} {Q : Bool → Mp → Led → Prop} (h : Q true m nw) : Wp w A g L fz m nw (PySem.isTrue (.BoolOp .And [] pos) env whole) Q :=
  fun s _ H k => isTrue_and_nil (k true m nw s.heap s.toks h H)
theorem Wp_and {e₁ e₂ : PySem.Expr} {rest : List PySem.Expr} {pos : Pos} {Q : Value → Mp → Led → Prop}
    (h : Wp w A g L fz m nw (eval e₁ env) fun v m₁ n₁ => Wp w A g L fz m₁ n₁ (truthy v) fun c m₂ n₂ => if c then Wp w A g L fz m₂ n₂ (eval (.BoolOp .And (e₂ :: rest) pos) env) Q else Q v m₂ n₂) : Wp w A g L fz m nw (eval (.BoolOp .And (e₁ :: e₂ :: rest) pos) env) Q :=
  fun s Q' H k => BoolOp_and (h s _ H fun v _ _ _ _ hv H₁ => hv _ _ H₁ fun c _ _ _ _ hc H₂ => by cases c with
    | false => exact k _ _ _ _ _ hc H₂
    | true => exact hc _ Q' H₂ k)
theorem Wp_or {e₁ e₂ : PySem.Expr} {rest : List PySem.Expr} {pos : Pos} {Q : Value → Mp → Led → Prop}
    (h : Wp w A g L fz m nw (eval e₁ env) fun v m₁ n₁ => Wp w A g L fz m₁ n₁ (truthy v) fun c m₂ n₂ => if c then Q v m₂ n₂ else Wp w A g L fz m₂ n₂ (eval (.BoolOp .Or (e₂ :: rest) pos) env) Q) : Wp w A g L fz m nw (eval (.BoolOp .Or (e₁ :: e₂ :: rest) pos) env) Q :=
  fun s Q' H k => BoolOp_or (h s _ H fun v _ _ _ _ hv H₁ => hv _ _ H₁ fun c _ _ _ _ hc H₂ => by cases c with
    | false => exact hc _ Q' H₂ k
    | true => exact k _ _ _ _ _ hc H₂)
theorem Wp_bone {op : BoolOp} {e : PySem.Expr} {pos : Pos} {Q : Value → Mp → Led → Prop} (h : Wp w A g L fz m nw (eval e env) Q) : Wp w A g L fz m nw (eval (.BoolOp op [e] pos) env) Q :=
  fun s Q' H k => BoolOp_one (h s Q' H k)

-- ints
theorem Wp_add {a b : Int} {t u : Tok} {Q : Value → Mp → Led → Prop} (h : ∀ t', Q (.int (a + b) t') m nw) : Wp w A g L fz m nw (binaryOp .Add (.int a t) (.int b u)) Q :=
  fun s _ H k => add_int (k _ m nw s.heap _ (h _) H)
theorem Wp_sub {a b : Int} {t u : Tok} {Q : Value → Mp → Led → Prop} (h : ∀ t', Q (.int (a - b) t') m nw) : Wp w A g L fz m nw (binaryOp .Sub (.int a t) (.int b u)) Q :=
  fun s _ H k => sub_int (k _ m nw s.heap _ (h _) H)
theorem Wp_mod {a b : Int} {t u : Tok} {Q : Value → Mp → Led → Prop} (hb : b ≠ 0) (h : ∀ t', Q (.int (a.fmod b) t') m nw) : Wp w A g L fz m nw (binaryOp .Mod (.int a t) (.int b u)) Q :=
  fun s _ H k => mod_int' hb (k _ m nw s.heap _ (h _) H)
theorem Wp_ieq {a b : Int} {t u : Tok} {Q : Value → Mp → Led → Prop} (h : Q (.bool (a == b)) m nw) : Wp w A g L fz m nw (compareOp .Eq (.int a t) (.int b u)) Q :=
  fun s _ H k => eq_int (k _ m nw s.heap s.toks h H)
theorem Wp_ine {a b : Int} {t u : Tok} {Q : Value → Mp → Led → Prop} (h : Q (.bool (a != b)) m nw) : Wp w A g L fz m nw (compareOp .NotEq (.int a t) (.int b u)) Q :=
  fun s _ H k => ne_int (k _ m nw s.heap s.toks h H)
theorem Wp_igt {a b : Int} {t u : Tok} {Q : Value → Mp → Led → Prop} (h : Q (.bool (decide (a > b))) m nw) : Wp w A g L fz m nw (compareOp .Gt (.int a t) (.int b u)) Q :=
  fun s _ H k => gt_int (k _ m nw s.heap s.toks h H)
theorem Wp_seq {x y : Str} {t u : Tok} {Q : Value → Mp → Led → Prop} (h : Q (.bool (x == y)) m nw) : Wp w A g L fz m nw (compareOp .Eq (.str x t) (.str y u)) Q :=
  fun s _ H k => PyProof.Rows.eq_str (k _ m nw s.heap s.toks h H)
theorem Wp_sadd {x y : Str} {t u : Tok} {Q : Value → Mp → Led → Prop} (hz : x.length + y.length ≤ sizeLine) (h : ∀ t', Q (.str (x ++ y) t') m nw) : Wp w A g L fz m nw (binaryOp .Add (.str x t) (.str y u)) Q :=
  fun s _ H k => SBL.add (fun t' _ _ => k _ m nw s.heap _ (h t') H) hz

-- statements
theorem Wp_nil {Q : Flow → Mp → Led → Prop} (h : Q .next m nw) : Wp w A g L fz m nw (execs [] env) Q := fun s _ H k => wpAny_execs_nil (k _ m nw s.heap s.toks h H)
theorem Wp_cons {st : Stmt} {rest : List Stmt} {Q : Flow → Mp → Led → Prop}
    (h : Wp w A g L fz m nw (exec st env) fun f m₁ n₁ => match f with | .next => Wp w A g L fz m₁ n₁ (execs rest env) Q | f => Q f m₁ n₁) : Wp w A g L fz m nw (execs (st :: rest) env) Q :=
  fun s Q' H k => wpAny_execs_cons (h s _ H fun f _ _ _ _ hf H₁ => by cases f with
    | next => exact hf _ Q' H₁ k
    | brk => exact k _ _ _ _ _ hf H₁
    | cont => exact k _ _ _ _ _ hf H₁
    | ret v => exact k _ _ _ _ _ hf H₁)
theorem Wp_store {x : Str} {v : Value} {Q : Unit → Mp → Led → Prop} (hL : env.locals = L) (hl : env.kindOf x = some .local) (hp : (env.scope.kind == .class || (env.scope.kind == .module && env.locals != env.globals)) = false) (h : Q () (upd m x v) nw) :
    Wp w A g L fz m nw (storeName env x v) Q   := by
  subst hL
  exact fun s _ H k => wpAny_storeName_local hl H.fr.ns (fun h' hn hs => k () _ nw h' _ h ⟨H.fr.set hn hs, H.ns.set hs, H.nd⟩) hp
theorem Wp_assign {x : Str} {pos' pos : Pos} {value : PySem.Expr} {Q : Flow → Mp → Led → Prop} (hs : swapsWith value (some (.Name x pos')) pos.line env = pure false)
    (h : Wp w A g L fz m nw (eval value env) fun v m₁ n₁ => Wp w A g L fz m₁ n₁ (storeName env x v) fun _ m₂ n₂ => Q .next m₂ n₂) : Wp w A g L fz m nw (exec (.Assign [.Name x pos'] value pos) env) Q :=
  fun s Q' H k => wpAny_Assign_Name (h s _ H fun _ _ _ _ _ hv H₁ => hv _ _ H₁ fun _ _ _ _ _ hu H₂ => k _ _ _ _ _ hu H₂) hs
theorem Wp_aug {x : Str} {pos' pos : Pos} {op : Operator} {value : PySem.Expr} {Q : Flow → Mp → Led → Prop}
    (h : Wp w A g L fz m nw (loadName env x) fun old m₀ n₀ => Wp w A g L fz m₀ n₀ (eval value env) fun v m₁ n₁ => Wp w A g L fz m₁ n₁ (inplaceOp op old v) fun r m₂ n₂ => Wp w A g L fz m₂ n₂ (storeName env x r) fun _ m₃ n₃ => Q .next m₃ n₃) :
    Wp w A g L fz m nw (exec (.AugAssign (.Name x pos') op value pos) env) Q :=
  fun s Q' H k => wpAny_AugAssign_Name (h s _ H fun _ _ _ _ _ h₀ H₀ => h₀ _ _ H₀ fun _ _ _ _ _ h₁ H₁ => h₁ _ _ H₁ fun _ _ _ _ _ h₂ H₂ => h₂ _ _ H₂ fun _ _ _ _ _ h₃ H₃ => k _ _ _ _ _ h₃ H₃)
theorem Wp_if {test : PySem.Expr} {body orelse : List Stmt} {pos : Pos} {Q : Flow → Mp → Led → Prop}
    (h : Wp w A g L fz m nw (PySem.isTrue test env (eval test env)) fun c m₁ n₁ => if c then Wp w A g L fz m₁ n₁ (execs body env) Q else Wp w A g L fz m₁ n₁ (execs orelse env) Q) : Wp w A g L fz m nw (exec (.If test body orelse pos) env) Q :=
  fun s Q' H k => wpAny_If (h s _ H fun c _ _ _ _ hc H₁ => by cases c <;> exact hc _ Q' H₁ k)
theorem Wp_ret {e : PySem.Expr} {pos : Pos} {Q : Flow → Mp → Led → Prop} (h : Wp w A g L fz m nw (eval e env) fun v m₁ n₁ => Q (.ret v) m₁ n₁) : Wp w A g L fz m nw (exec (.Return (some e) pos) env) Q :=
  fun s Q' H k => wpAny_Return_some (h s _ H fun v _ _ _ _ hv H₁ => k _ _ _ _ _ hv H₁)
theorem Wp_expr {e : PySem.Expr} {pos : Pos} {Q : Flow → Mp → Led → Prop} (hi : interactive env = false) (hs : swapsWith e none pos.line env = pure false)
    (h : Wp w A g L fz m nw (eval e env) fun v m₁ n₁ => v = .none ∧ Q .next m₁ n₁) : Wp w A g L fz m nw (exec (.Expr e pos) env) Q :=
  fun s Q' H k => wpAny_Expr (h s _ H fun v _ _ _ _ hv H₁ => by obtain ⟨rfl, hv⟩ := hv; exact k _ _ _ _ _ hv H₁) hi hs
end
end Mine
end

section
open PySem PySem.W PyProof.Rows PyProof.V PySem.Calls
set_option maxRecDepth 100000
namespace Mine
section
variable {α β : Type} {w : World} {A : Around} {g : Heap} {L : Addr} {fz : Led} {m : Mp} {nw : Led} {env : Env}

/-- the object stands at a: made by the call, or of the ground -/
def At (g : Heap) (nw : Led) (a : Addr) (o : Obj) : Prop := (a, o) ∈ nw ∨ g.get? a = some o
theorem At.get {h : Heap} {a : Addr} {o : Obj} (H : Wf g L fz h m nw) (x : At g nw a o) : h.get? a = some o := x.elim (fun y => H.mem y) fun y => H.fr.keep _ _ y
theorem At.cons {a : Addr} {o : Obj} {p : Addr × Obj} (x : At g nw a o) : At g (p :: nw) a o := x.imp (List.mem_cons_of_mem _) id
theorem At.head {a : Addr} {o : Obj} : At g ((a, o) :: nw) a o := .inl (.head _)
theorem At.list {h : Heap} {a : Addr} {its : Array Value} {n : Nat} (H : Wf g L fz h m nw) (x : At g nw a (listOf its n)) : h.IsList a its := ⟨_, x.get H, rfl, n, rfl⟩
abbrev tupOf (its : Array Value) (n : Nat) : Obj := { cls := .type "tuple", data := .seq its n }
theorem At.tup {h : Heap} {a : Addr} {its : Array Value} {n : Nat} (H : Wf g L fz h m nw) (x : At g nw a (tupOf its n)) : IsTup h a its := ⟨_, x.get H, rfl, n, rfl⟩

def updL (nw : Led) (l : Addr) (o : Obj) : Led := nw.map fun p => if p.1 = l then (l, o) else p
theorem updL_fst {l : Addr} {o : Obj} : ∀ (nw : Led), (updL nw l o).map (·.1) = nw.map (·.1)
  | [] => rfl
  | p :: r => by
    show (if p.1 = l then (l, o) else p).1 :: (updL r l o).map (·.1) = p.1 :: r.map (·.1)
    rw [updL_fst r]
    by_cases h : p.1 = l
    · rw [if_pos h, h]
    · rw [if_neg h]
theorem updL_off {l : Addr} {o : Obj} : ∀ {nw : Led}, (∀ p ∈ nw, p.1 ≠ l) → updL nw l o = nw
  | [], _ => rfl
  | p :: r, h => by
    show (if p.1 = l then (l, o) else p) :: updL r l o = p :: r
    rw [if_neg (h p (.head _)), updL_off fun q hq => h q (.tail _ hq)]
theorem updL_mem {l : Addr} {o o₀ : Obj} {nw : Led} (h : (l, o₀) ∈ nw) : (l, o) ∈ updL nw l o :=
  List.mem_map.mpr ⟨(l, o₀), h, if_pos rfl⟩
theorem updL_mem_ne {l : Addr} {o : Obj} {nw : Led} {p : Addr × Obj} (h : p ∈ nw) (hn : p.1 ≠ l) : p ∈ updL nw l o :=
  List.mem_map.mpr ⟨p, h, if_neg hn⟩
theorem At.upd_ne {l a : Addr} {o o' : Obj} (h : At g nw a o) (hn : a ≠ l) : At g (updL nw l o') a o := h.imp (fun x => updL_mem_ne x hn) id
theorem upd_of_nodup {l : Addr} {o o' : Obj} {fz : Led} : ∀ {nw : Led}, ((nw ++ fz).map (·.1)).Nodup → (l, o) ∈ nw → Upd l o o' (nw ++ fz) (updL nw l o' ++ fz)
  | [], _, h => nomatch h
  | p :: r, hn, h => by
    have hn' : p.1 ∉ ((r ++ fz).map (·.1)) ∧ ((r ++ fz).map (·.1)).Nodup := List.nodup_cons.mp hn
    rcases List.mem_cons.mp h with e | h
    · subst e
      have off : ∀ q ∈ r ++ fz, q.1 ≠ l := fun q hq e => hn'.1 (List.mem_map.mpr ⟨q, hq, e⟩)
      show Upd l o o' ((l, o) :: (r ++ fz)) ((if l = l then (l, o') else (l, o)) :: (updL r l o' ++ fz))
      rw [if_pos rfl, updL_off fun q hq => off q (List.mem_append_left _ hq)]
      exact .head off
    · have ne : p.1 ≠ l := fun e => hn'.1 (List.mem_map.mpr ⟨(l, o), List.mem_append_left _ h, e.symm⟩)
      show Upd l o o' (p :: (r ++ fz)) ((if p.1 = l then (l, o') else p) :: (updL r l o' ++ fz))
      rw [if_neg ne]
      exact .tail ne (upd_of_nodup hn'.2 h)
theorem Wf.upd {h h' : Heap} {l : Addr} {o : Obj} (H : Wf g L fz h m nw) (F : Fr g L h' m) (N : News g L h' (updL nw l o ++ fz)) : Wf g L fz h' m (updL nw l o) :=
  ⟨F, N, by rw [List.map_append, updL_fst, ← List.map_append]; exact H.nd⟩
theorem Wf.lt {h : Heap} (H : Wf g L fz h m nw) : ∀ p ∈ nw ++ fz, p.1 < h.objs.size := fun p hp => Heap.lt_size (H.ns p hp).1
theorem Wf.alloc {h h' : Heap} {d : Addr} {o : Obj} (H : Wf g L fz h m nw) (hd : ∀ p ∈ nw ++ fz, p.1 ≠ d) (F : Fr g L h' m) (N : News g L h' ((d, o) :: (nw ++ fz))) : Wf g L fz h' m ((d, o) :: nw) :=
  ⟨F, N, List.nodup_cons.mpr ⟨fun hm => by obtain ⟨p, hp, e⟩ := List.mem_map.mp hm; exact hd p hp e, H.nd⟩⟩
/-- d is new to the ledger -/
def New (nw : Led) (d : Addr) : Prop := ∀ p ∈ nw, p.1 ≠ d
theorem New.of {nw fz : Led} {d : Addr} (h : ∀ p ∈ nw ++ fz, p.1 ≠ d) : New nw d := fun p hp => h p (List.mem_append_left _ hp)
theorem New.ne {nw : Led} {d a : Addr} {o : Obj} (h : New nw d) (x : (a, o) ∈ nw) : a ≠ d := h _ x
theorem Wf.size_new {h : Heap} (H : Wf g L fz h m nw) : ∀ p ∈ nw ++ fz, p.1 ≠ h.objs.size := fun p hp => Nat.ne_of_lt (H.lt p hp)

-- making
theorem Wp_newTuple {vs : List Value} {Q : Value → Mp → Led → Prop} (hz : vs.length ≤ sizeLine) (h : ∀ d, New nw d → Q (.ref d) m ((d, tupOf vs.toArray 0) :: nw)) : Wp w A g L fz m nw (newTuple vs) Q :=
  fun s _ H k => newTuple_N H.fr H.ns (fun h' F N => k _ _ _ h' s.toks (h _ (New.of H.size_new)) (H.alloc H.size_new F N)) hz
theorem Wp_newList {vs : List Value} {Q : Value → Mp → Led → Prop} (hz : vs.length ≤ sizeLine) (h : ∀ d, New nw d → Q (.ref d) m ((d, listOf vs.toArray 0) :: nw)) : Wp w A g L fz m nw (newList vs) Q :=
  fun s _ H k => newList_N H.fr H.ns (fun h' F N => k _ _ _ h' s.toks (h _ (New.of H.size_new)) (H.alloc H.size_new F N)) hz
theorem Wp_spl_nil {pos : Pos} {Q : List Value → Mp → Led → Prop} (h : Q [] m nw) : Wp w A g L fz m nw (spliced (backTo pos (starEach [] env))) Q :=
  fun s _ H k => spliced_none (k [] m nw s.heap s.toks h H)
theorem Wp_spl_cons {e : PySem.Expr} {rest : List PySem.Expr} {pos : Pos} {Q : List Value → Mp → Led → Prop} (he : starEach (e :: rest) env = (false, eval e env) :: starEach rest env)
    (h : Wp w A g L fz m nw (eval e env) fun v m₁ n₁ => Wp w A g L fz m₁ n₁ (spliced (backTo pos (starEach rest env))) fun vs m₂ n₂ => Q (v :: vs) m₂ n₂) : Wp w A g L fz m nw (spliced (backTo pos (starEach (e :: rest) env))) Q :=
  fun s _ H k => spliced_more (h s _ H fun _ _ _ _ _ hv H₁ => hv _ _ H₁ fun _ _ _ _ _ hs H₂ => k _ _ _ _ _ hs H₂) he
theorem Wp_tuple {es : List PySem.Expr} {kk : Nat} {pos : Pos} {Q : Value → Mp → Led → Prop} (h : Wp w A g L fz m nw (spliced (backTo pos (starEach es env))) fun vs m₁ n₁ => Wp w A g L fz m₁ n₁ (newTuple vs) Q) : Wp w A g L fz m nw (eval (.Tuple es kk pos) env) Q :=
  fun s Q' H k => PyProof.Rows.Tuple_ (h s _ H fun _ _ _ _ _ hv H₁ => hv _ Q' H₁ k)
theorem Wp_list {es : List PySem.Expr} {pos : Pos} {Q : Value → Mp → Led → Prop} (h : Wp w A g L fz m nw (spliced (backTo pos (starEach es env))) fun vs m₁ n₁ => Wp w A g L fz m₁ n₁ (newList vs) Q) : Wp w A g L fz m nw (eval (.List es pos) env) Q :=
  fun s Q' H k => PyProof.Rows.List_ (h s _ H fun _ _ _ _ _ hv H₁ => hv _ Q' H₁ k)

-- reading items
theorem Wp_idx {value slice : PySem.Expr} {pos : Pos} {Q : Value → Mp → Led → Prop}
    (h : Wp w A g L fz m nw (eval value env) fun o m₁ n₁ => Wp w A g L fz m₁ n₁ (eval slice env) fun i m₂ n₂ => Wp w A g L fz m₂ n₂ (subscriptTail value slice o i) Q) : Wp w A g L fz m nw (eval (.Subscript value slice pos) env) Q :=
  fun s Q' H k => Subscript_ (h s _ H fun _ _ _ _ _ ha H₁ => ha _ _ H₁ fun _ _ _ _ _ hb H₂ => hb _ Q' H₂ k)
theorem Wp_itemL {value slice : PySem.Expr} {l : Addr} {vs : List Value} {n : Nat} {k : Int} {u : Tok} {x : Value} {Q : Value → Mp → Led → Prop}
    (hs : subscripted slice false (.ref l) (.int k u) = operate [.ref l, .int k u] (getItem (.ref l) (.int k u)))
    (hl : At g nw l (listOf vs.toArray n)) (h0 : 0 ≤ k) (hf : k < 2 ^ 63) (hx : vs[k.toNat]? = some x) (h : Q x m nw) : Wp w A g L fz m nw (subscriptTail value slice (.ref l) (.int k u)) Q :=
  fun s _ H kk => tail_any (hl.list H).typeIs slot_list_getitem.lookup (wpAny_getItem_list (hl.list H) h0 hf (by simpa using hx) (kk x m nw s.heap s.toks h H)) hs
theorem Wp_itemT {value slice : PySem.Expr} {l : Addr} {vs : List Value} {n : Nat} {k : Int} {u : Tok} {j : Nat} {x : Value} {Q : Value → Mp → Led → Prop}
    (hs : subscripted slice false (.ref l) (.int k u) = operate [.ref l, .int k u] (getItem (.ref l) (.int k u)))
    (hl : At g nw l (tupOf vs.toArray n)) (h0 : -(2 ^ 63) ≤ k) (hf : k < 2 ^ 63) (hj : seqIndex? k vs.length = some j) (hx : vs[j]? = some x) (h : Q x m nw) : Wp w A g L fz m nw (subscriptTail value slice (.ref l) (.int k u)) Q :=
  fun s _ H kk => item_tupleT (hl.tup H) h0 hf hj hx (kk x m nw s.heap s.toks h H) hs

-- calls
theorem Wp_call {func : PySem.Expr} {args : List PySem.Expr} {pos : Pos} {Q : Value → Mp → Led → Prop}
    (he : eval (.Call func args [] pos) env = (do callWith pos (← eval func env) [] (backTo pos (starEach args env)) (backToKw pos (keywordEach [] env))))
    (h : Wp w A g L fz m nw (eval func env) fun f m₁ n₁ => Wp w A g L fz m₁ n₁ (callWith pos f [] (backTo pos (starEach args env)) []) Q) : Wp w A g L fz m nw (eval (.Call func args [] pos) env) Q :=
  fun s Q' H k => PyProof.Rows.Call_ (h s _ H fun _ _ _ _ _ ha H₁ => ha _ Q' H₁ k) he
theorem Wp_cwB {pos : Pos} {id : String} {e : PySem.Expr} {rest : List PySem.Expr} {Q : Value → Mp → Led → Prop} (he : starEach (e :: rest) env = (false, eval e env) :: starEach rest env) (hp : (backTo pos (starEach rest env)).any (·.1) = false)
    (h : Wp w A g L fz m nw (spliced (backTo pos (starEach (e :: rest) env))) fun vs m₁ n₁ => Wp w A g L fz m₁ n₁ (call (.builtin id) vs) Q) : Wp w A g L fz m nw (callWith pos (.builtin id) [] (backTo pos (starEach (e :: rest) env)) []) Q :=
  fun s Q' H k => PyProof.Rows.callWith_builtin1 (h s _ H fun _ _ _ _ _ ha H₁ => ha _ Q' H₁ k) he hp
theorem Wp_cwT {pos : Pos} {T : String} {e : PySem.Expr} {rest : List PySem.Expr} {Q : Value → Mp → Led → Prop} (he : starEach (e :: rest) env = (false, eval e env) :: starEach rest env) (hp : (backTo pos (starEach rest env)).any (·.1) = false)
    (h : Wp w A g L fz m nw (spliced (backTo pos (starEach (e :: rest) env))) fun vs m₁ n₁ => Wp w A g L fz m₁ n₁ (call (.type T) vs) Q) : Wp w A g L fz m nw (callWith pos (.type T) [] (backTo pos (starEach (e :: rest) env)) []) Q :=
  fun s Q' H k => Pv.callWith_type1 (h s _ H fun _ _ _ _ _ ha H₁ => ha _ Q' H₁ k) he hp
theorem Wp_cwF {pos : Pos} {f : Value} {e : PySem.Expr} {rest : List PySem.Expr} {Q : Value → Mp → Led → Prop} (G : Gd w g) (hf : keepIn (K w.params) f = true) (he : starEach (e :: rest) env = (false, eval e env) :: starEach rest env) (hp : (backTo pos (starEach rest env)).any (·.1) = false)
    (h : Wp w A g L fz m nw (spliced (backTo pos (starEach (e :: rest) env))) fun vs m₁ n₁ => Wp w A g L fz m₁ n₁ (call f vs) Q) : Wp w A g L fz m nw (callWith pos f [] (backTo pos (starEach (e :: rest) env)) []) Q :=
  fun s Q' H k => callWith_K G.inK hf (h s _ H fun _ _ _ _ _ ha H₁ => ⟨G.inK.keeps H₁.fr.keep, ha _ Q' H₁ k⟩) he hp
theorem Wp_lenL {l : Addr} {its : Array Value} {n : Nat} {Q : Value → Mp → Led → Prop} (hl : At g nw l (listOf its n)) (hf : (its.size : Int) < 2 ^ 63) (h : ∀ t, Q (.int its.size t) m nw) : Wp w A g L fz m nw (call (.builtin "len") [.ref l]) Q :=
  fun s _ H k => len_list (hl.list H) hf (k _ m nw s.heap _ (h _) H)
theorem Wp_lenT {l : Addr} {its : Array Value} {n : Nat} {Q : Value → Mp → Led → Prop} (hl : At g nw l (tupOf its n)) (hf : (its.size : Int) < 2 ^ 63) (h : ∀ t, Q (.int its.size t) m nw) : Wp w A g L fz m nw (call (.builtin "len") [.ref l]) Q :=
  fun s _ H k => len_tuple (hl.tup H) hf (k _ m nw s.heap _ (h _) H)
theorem Wp_lenS {x : Str} {t : Tok} {Q : Value → Mp → Led → Prop} (hf : (x.length : Int) < 9223372036854775808) (h : ∀ t, Q (.int x.length t) m nw) : Wp w A g L fz m nw (call (.builtin "len") [.str x t]) Q :=
  fun s _ H k => SBL.len hf (k _ m nw s.heap _ (h _) H)
theorem Wp_ord {x : Str} {t : Tok} {Q : Value → Mp → Led → Prop} (h1 : x.length = 1) (h : ∀ t, Q (.int (x.cps.getD 0 0 : Nat) t) m nw) : Wp w A g L fz m nw (call (.builtin "ord") [.str x t]) Q :=
  fun s _ H k => ord_of_one h1 (k _ m nw s.heap _ (h _) H)
theorem Wp_chr {i : Int} {t : Tok} {Q : Value → Mp → Led → Prop} (hi : (decide (i < 0) || decide (i > 1114111)) = false) (h : ∀ t, Q (.str ⟨#[i.toNat]⟩ t) m nw) : Wp w A g L fz m nw (call (.builtin "chr") [.int i t]) Q :=
  fun s _ H k => P.chr_of_int hi (k _ m nw s.heap _ (h _) H)
abbrev rangeObj (a b : Int) (t u v : Tok) : Obj := { cls := .type "range", data := .fields #[.int a t, .int b u, .int 1 v] }
theorem Wp_range1 {b : Int} {t : Tok} {Q : Value → Mp → Led → Prop} (h : ∀ d t₁ u₁ v₁, New nw d → Q (.ref d) m ((d, rangeObj 0 b t₁ u₁ v₁) :: nw)) : Wp w A g L fz m nw (call (.type "range") [.int b t]) Q :=
  fun s _ H k => range1_rows H.fr H.ns fun h' tk t₁ u₁ v₁ hr F N hk => k _ _ _ h' tk (h _ _ _ _ (New.of H.size_new)) (H.alloc H.size_new F (fun p hp => by
    rcases List.mem_cons.mp hp with rfl | hp
    · exact ⟨hr, Nat.ne_of_gt H.fr.ns.lt, next_is_new H.fr⟩
    · exact N p hp))
theorem Wp_range2 {a b : Int} {t u : Tok} {Q : Value → Mp → Led → Prop} (h : ∀ d t₁ u₁ v₁, New nw d → Q (.ref d) m ((d, rangeObj a b t₁ u₁ v₁) :: nw)) : Wp w A g L fz m nw (call (.type "range") [.int a t, .int b u]) Q :=
  fun s _ H k => range2_rows H.fr H.ns fun h' tk t₁ u₁ v₁ hr F N hk => k _ _ _ h' tk (h _ _ _ _ (New.of H.size_new)) (H.alloc H.size_new F (fun p hp => by
    rcases List.mem_cons.mp hp with rfl | hp
    · exact ⟨hr, Nat.ne_of_gt H.fr.ns.lt, next_is_new H.fr⟩
    · exact N p hp))
theorem Wp_listT {l : Addr} {its : Array Value} {n : Nat} {Q : Value → Mp → Led → Prop} (hl : At g nw l (tupOf its n)) (hz : its.size ≤ sizeLine) (h : ∀ d c, New nw d → Q (.ref d) m ((d, listOf its c) :: nw)) : Wp w A g L fz m nw (call (.type "list") [.ref l]) Q :=
  fun s _ H k => list_copyKT H.fr H.ns (hl.tup H) (fun D c h' F N hlt => k _ _ _ h' s.toks (h D c (New.of fun p hp => Nat.ne_of_lt (hlt p hp))) (H.alloc (fun p hp => Nat.ne_of_lt (hlt p hp)) F N)) hz
-- lists
theorem Wp_mulL {l : Addr} {its : Array Value} {n : Nat} {x : Int} {u : Tok} {Q : Value → Mp → Led → Prop} (hl : At g nw l (listOf its n)) (h0 : -2 ^ 63 ≤ x) (h1 : x < 2 ^ 63) (hz : its.size * x.toNat ≤ 2 ^ 24)
    (h : ∀ d, New nw d → Q (.ref d) m ((d, listOf (List.foldl (fun x1 x2 => x1 ++ x2) #[] (List.replicate (if its.isEmpty = true then 0 else x.toNat) its)) 0) :: nw)) : Wp w A g L fz m nw (binaryOp .Mult (.ref l) (.int x u)) Q :=
  fun s _ H k => mul_list H.fr H.ns (hl.get H) h0 h1 hz fun h' F N => k _ _ _ h' s.toks (h _ (New.of H.size_new)) (H.alloc H.size_new F N)
theorem Wp_addL {l b : Addr} {its its2 : Array Value} {n n2 : Nat} {Q : Value → Mp → Led → Prop} (hl : At g nw l (listOf its n)) (hb : At g nw b (listOf its2 n2)) (hz : its.size + its2.size ≤ sizeLine)
    (h : ∀ d, New nw d → Q (.ref d) m ((d, listOf (its.toList ++ its2.toList).toArray 0) :: nw)) : Wp w A g L fz m nw (binaryOp .Add (.ref l) (.ref b)) Q :=
  fun s _ H k => add_arrays H.fr H.ns (hl.list H) (hb.list H) (fun h' F N => k _ _ _ h' s.toks (h _ (New.of H.size_new)) (H.alloc H.size_new F N)) hz
theorem Wp_append {l : Addr} {its : Array Value} {n : Nat} {x : Value} {Q : Value → Mp → Led → Prop} (hl : (l, listOf its n) ∈ nw) (hz : its.size ≤ sizeLine) (h : Q .none m (updL nw l (listOf (its.push x) (n + 1)))) :
    Wp w A g L fz m nw (call (.builtin "list.append") [.ref l, x]) Q :=
  fun s _ H k => append_K H.fr H.ns (upd_of_nodup H.nd hl) (fun h' F N => k _ _ _ h' s.toks h (H.upd F N)) hz
end
end Mine
end

section
open PySem PySem.W PyProof.Rows PyProof.V PySem.Calls
set_option maxRecDepth 100000
namespace Mine
section
variable {α β : Type} {w : World} {A : Around} {g : Heap} {L : Addr} {fz : Led} {m : Mp} {nw : Led} {env : Env}

-- a ledger without its doubles
theorem dedup {h : Heap} {P : Addr × Obj → Prop} : ∀ (own : Led), (∀ p ∈ own, h.get? p.1 = some p.2) → ∃ own' : Led, (∀ p ∈ own, P p → p ∈ own') ∧ (∀ p ∈ own', p ∈ own ∧ P p) ∧ (own'.map (·.1)).Nodup
  | [], _ => ⟨[], fun _ h => (nomatch h), fun _ h => (nomatch h), .nil⟩
  | p :: r, hg => by
    obtain ⟨o, h1, h2, h3⟩ := dedup (P := P) r fun q hq => hg q (.tail _ hq)
    by_cases hP : P p
    · by_cases hm : p.1 ∈ o.map (·.1)
      · refine ⟨o, fun q hq hPq => ?_, fun q hq => ⟨.tail _ (h2 q hq).1, (h2 q hq).2⟩, h3⟩
        rcases List.mem_cons.mp hq with rfl | hq
        · obtain ⟨z, hz, e⟩ := List.mem_map.mp hm
          have a := hg z (.tail _ (h2 z hz).1)
          have b := hg q (.head _)
          rw [e] at a
          rw [a] at b
          have : z = q := Prod.ext e (Option.some.inj b)
          exact this ▸ hz
        · exact h1 q hq hPq
      · refine ⟨p :: o, fun q hq hPq => ?_, fun q hq => ?_, List.nodup_cons.mpr ⟨hm, h3⟩⟩
        · rcases List.mem_cons.mp hq with rfl | hq
          · exact .head _
          · exact .tail _ (h1 q hq hPq)
        · rcases List.mem_cons.mp hq with rfl | hq
          · exact ⟨.head _, hP⟩
          · exact ⟨.tail _ (h2 q hq).1, (h2 q hq).2⟩
    · refine ⟨o, fun q hq hPq => ?_, fun q hq => ⟨.tail _ (h2 q hq).1, (h2 q hq).2⟩, h3⟩
      rcases List.mem_cons.mp hq with rfl | hq
      · exact absurd hPq hP
      · exact h1 q hq hPq

theorem nodup_disj {a b : Led} (h : ((a ++ b).map (·.1)).Nodup) {p q : Addr × Obj} (hp : p ∈ a) (hq : q ∈ b) : p.1 ≠ q.1 := by
  rw [List.map_append] at h
  exact (List.nodup_append.mp h).2.2 _ (List.mem_map_of_mem hp) _ (List.mem_map_of_mem hq)

theorem loop_at {s : Shared} {x : Str} {body : List Stmt} {Q' : Flow → Shared → Prop} {I : Addr} {fp wr : List Addr} {n : Nat} {P : Nat → Value → Prop} {St : Nat → Heap → Prop} (J : Nat → Mp → Led → Prop) (keep : Led)
    (W : Walks pw w A I fp wr n P St) (hLf : env.locals ∉ fp) (hwr : ∀ b ∈ wr, g.get? b = none) (hnw : ∀ p ∈ nw ++ fz, p.1 ∉ wr) (hst : St 0 s.heap) (hob : ∀ i h, St i h → ∀ b ∈ wr, ∃ o, h.get? b = some o)
    (H : Wf g env.locals fz s.heap m nw) (hj : J 0 m nw) (hkeep : ∀ i m n, J i m n → ∀ p ∈ keep, p ∈ n) (hfp : ∀ a ∈ fp, a ∉ wr → g.get? a = none → ∃ o, (a, o) ∈ keep)
    (turn : ∀ i v m₁ n₁ fz', i < n → P i v → J i m₁ n₁ → Wp w A g env.locals fz' (upd m₁ x v) n₁ (execs body env) fun f m₂ n₂ => f = .next ∧ J (i + 1) m₂ n₂)
    (done : ∀ m₁ n₁ h' tk', J n m₁ n₁ → Wf g env.locals fz h' m₁ n₁ → Q' .next { s with heap := h', toks := tk' }) :
    LoopAtV pw w A g env x body Q' (fun _ _ => False) (.ref I) s := by
  refine ⟨I, fp, wr, n, P, St, m, nw ++ fz, fun i m' nx => ∃ n', nx = n' ++ fz ∧ ((n' ++ fz).map (·.1)).Nodup ∧ J i m' n', rfl, W, hLf, hwr, hnw, hst, H.fr, H.ns, ⟨nw, rfl, H.nd, hj⟩, ?_, ?_⟩
  · rintro i v m₁ news₁ s₁ own ⟨hh, tk, rfl⟩ hi hP ⟨n₁, rfl, nd, hJ⟩ hoff hown hget hall hst' F N
    obtain ⟨own', o1, o2, o3⟩ := dedup (P := fun p => p.1 ∈ wr) own hget
    have Hb : Wf g env.locals (fz ++ own') hh (upd m₁ x v) n₁ := by
      refine ⟨F, fun p hp => ?_, ?_⟩
      · rcases List.mem_append.mp hp with hp | hp
        · exact N p (List.mem_append_right _ (List.mem_append_left _ hp))
        · rcases List.mem_append.mp hp with hp | hp
          · exact N p (List.mem_append_right _ (List.mem_append_right _ hp))
          · exact N p (List.mem_append_left _ (o2 p hp).1)
      · rw [← List.append_assoc, List.map_append]
        refine List.nodup_append.mpr ⟨nd, o3, fun a ha b hb e => ?_⟩
        obtain ⟨p, hp, rfl⟩ := List.mem_map.mp ha
        obtain ⟨q, hq, rfl⟩ := List.mem_map.mp hb
        exact hoff p hp (e ▸ (o2 q hq).2)
    refine (turn i v m₁ n₁ (fz ++ own') hi hP hJ) _ _ Hb ?_
    rintro f m₂ n₂ h' tk' ⟨rfl, hJ₂⟩ H₂
    refine .next ⟨rfl, h', tk', m₂, n₂ ++ fz, rfl, H₂.fr, fun p hp => ?_, fun p hp hb => ?_, n₂, rfl, ?_, hJ₂⟩
    · rcases List.mem_append.mp hp with hp | hp
      · by_cases hw : p.1 ∈ wr
        · exact H₂.ns p (List.mem_append_right _ (List.mem_append_right _ (o1 p hp hw)))
        · obtain ⟨o, ho⟩ := hfp p.1 (hown p hp) hw (N p (List.mem_append_left _ hp)).2.2
          have e1 := (N (p.1, o) (List.mem_append_right _ (List.mem_append_left _ (hkeep _ _ _ hJ _ ho)))).1
          have e2 := hget p hp
          dsimp only at e1
          rw [e1] at e2
          have : p = (p.1, o) := Prod.ext rfl (Option.some.inj e2).symm
          rw [this]
          exact H₂.ns _ (List.mem_append_left _ (hkeep _ _ _ hJ₂ _ ho))
      · rcases List.mem_append.mp hp with hp | hp
        · exact H₂.ns p (List.mem_append_left _ hp)
        · exact H₂.ns p (List.mem_append_right _ (List.mem_append_left _ hp))
    · obtain ⟨o, ho⟩ := hob _ _ hst' _ hb
      have hq := o1 _ (hall _ (W.sub _ hb) (hwr _ hb) o ho) hb
      have nd' := H₂.nd
      rw [← List.append_assoc] at nd'
      exact nodup_disj nd' hp hq rfl
    · have nd' := H₂.nd
      rw [← List.append_assoc, List.map_append] at nd'
      exact (List.nodup_append.mp nd').1
  · rintro h' tk m' news' F N _ ⟨n', rfl, nd, hJ⟩
    exact done m' n' h' tk hJ ⟨F, N, nd⟩

theorem passes {env : Env} : PassesOwn (model pw w) A env (fun _ _ => False) := fun _ _ h => h.elim

theorem Wp_forR {x : Str} {px pos : Pos} {iter : PySem.Expr} {body : List Stmt} {Q : Flow → Mp → Led → Prop} (J : Nat → Mp → Led → Prop) (hL : env.locals = L) (hx : env.kindOf x = some .local)
    (hp : (env.scope.kind == .class || (env.scope.kind == .module && env.locals != env.globals)) = false) (hh : A.handled = none) (hs : ∀ v, foldedSetIterable iter env v = pure v)
    (h : Wp w A g L fz m nw (eval iter env) fun xv m₁ n₁ => ∃ r a b t u v, xv = .ref r ∧ At g n₁ r (rangeObj a b t u v) ∧ Builtin.Range.small a b 1 = true ∧ J 0 m₁ n₁ ∧
      (∀ i m₂ n₂ fz' t, i < (b - a).toNat → J i m₂ n₂ → Wp w A g L fz' (upd m₂ x (.int (a + (i : Int)) t)) n₂ (execs body env) fun f m₃ n₃ => f = .next ∧ J (i + 1) m₃ n₃) ∧
      ∀ m₂ n₂, J (b - a).toNat m₂ n₂ → Q .next m₂ n₂) : Wp w A g L fz m nw (exec (.For (.Name x px) iter body [] pos) env) Q := by
  subst hL
  intro s Q' H k
  refine For_invV g hx hp (h s _ H ?_) hs passes
  rintro xv m₁ n₁ h₁ tk₁ ⟨r, a, b, t, u, v, rfl, hr, hsm, hj, turn, done⟩ H₁
  refine wpAny_pyIter_range (hr.get H₁) hsm ?_
  have hn : Builtin.Range.rangeSize a b 1 = (((b - a).toNat : Nat) : Int) := rangeSize_nat a b
  have W : Walks pw w A h₁.objs.size [h₁.objs.size] [h₁.objs.size] (b - a).toNat (fun i v => i < (b - a).toNat ∧ ∃ t, v = .int (a + i * 1) t)
      (fun i h => IsRangeIter h h₁.objs.size (a + (i : Nat) * 1) (((b - a).toNat : Int) - (i : Nat)) 1) := (Walks.range hh _ a 1 (b - a).toNat).bound
  have Hp : Wf g env.locals fz (h₁.push { cls := .type "range_iterator", data := .fields #[rawInt a, rawInt (Builtin.Range.rangeSize a b 1), rawInt 1] }) m₁ n₁ :=
    ⟨H₁.fr.push _, fun p hp => ⟨Heap.get?_push_of_some _ (H₁.ns p hp).1, (H₁.ns p hp).2⟩, H₁.nd⟩
  refine loop_at J [] W ?_ ?_ ?_ (by show IsRangeIter _ _ _ _ _; rw [hn]; simpa using Heap.get?_push_size _ rfl) ?_ Hp hj (fun _ _ _ _ _ hp => nomatch hp) ?_ ?_ ?_
  · intro hm
    exact absurd H₁.fr.ns.lt ((List.mem_singleton.mp hm) ▸ Nat.lt_irrefl _)
  · intro b hb
    rw [List.mem_singleton.mp hb]
    exact next_is_new H₁.fr
  · intro p hp hI
    exact absurd (H₁.lt p hp) ((List.mem_singleton.mp hI) ▸ Nat.lt_irrefl _)
  · intro i h hi b hb
    rw [List.mem_singleton.mp hb]
    exact ⟨_, hi⟩
  · intro a ha hn
    exact absurd ha hn
  · rintro i v m₂ n₂ fz' hi ⟨_, t, rfl⟩ hJ
    have e1 : a + (i : Int) * 1 = a + (i : Int) := by omega
    rw [e1]
    exact turn i m₂ n₂ fz' t hi hJ
  · exact fun m₂ n₂ h' tk' hJ H' => k _ _ _ h' tk' (done m₂ n₂ hJ) H'

theorem Wp_forL {x : Str} {px pos : Pos} {iter : PySem.Expr} {body : List Stmt} {Q : Flow → Mp → Led → Prop} (J : Nat → Mp → Led → Prop) (hL : env.locals = L) (hx : env.kindOf x = some .local)
    (hp : (env.scope.kind == .class || (env.scope.kind == .module && env.locals != env.globals)) = false) (hh : A.handled = none) (hs : ∀ v, foldedSetIterable iter env v = pure v)
    (h : Wp w A g L fz m nw (eval iter env) fun xv m₁ n₁ => ∃ l its c, xv = .ref l ∧ J 0 m₁ n₁ ∧ (∀ i m n, J i m n → (l, listOf its c) ∈ n) ∧
      (∀ i v m₂ n₂ fz', its[i]? = some v → J i m₂ n₂ → Wp w A g L fz' (upd m₂ x v) n₂ (execs body env) fun f m₃ n₃ => f = .next ∧ J (i + 1) m₃ n₃) ∧
      ∀ m₂ n₂, J its.size m₂ n₂ → Q .next m₂ n₂) : Wp w A g L fz m nw (exec (.For (.Name x px) iter body [] pos) env) Q := by
  subst hL
  intro s Q' H k
  refine For_invV g hx hp (h s _ H ?_) hs passes
  rintro xv m₁ n₁ h₁ tk₁ ⟨l, its, c, rfl, hj, hmem, turn, done⟩ H₁
  have hl : (l, listOf its c) ∈ n₁ := hmem 0 m₁ n₁ hj
  have hls : h₁.IsList l its := At.list H₁ (.inl hl)
  refine wpAny_pyIter_list hls ?_
  have hlt : l < h₁.objs.size := H₁.lt _ (List.mem_append_left _ hl)
  have W := Walks.list (prog := pw) (w := w) hh h₁.objs.size l (Nat.ne_of_lt hlt) its
  have Hp : ∀ o : Obj, Wf g env.locals fz (h₁.push o) m₁ n₁ := fun o =>
    ⟨H₁.fr.push _, fun p hp => ⟨Heap.get?_push_of_some _ (H₁.ns p hp).1, (H₁.ns p hp).2⟩, H₁.nd⟩
  refine loop_at J [(l, listOf its c)] W ?_ ?_ ?_ ⟨⟨_, Heap.get?_push_size _ rfl, rfl, rfl⟩, hls.at fun o e => Heap.get?_push_of_some _ e⟩ ?_ (Hp _) hj (fun i m n hJ p hp => ?_) ?_ ?_ ?_
  · intro hm
    rcases List.mem_cons.mp hm with e | hm
    · exact absurd H₁.fr.ns.lt (e ▸ Nat.lt_irrefl _)
    · exact (H₁.ns _ (List.mem_append_left _ hl)).2.1 (List.mem_singleton.mp hm).symm
  · intro b hb
    rw [List.mem_singleton.mp hb]
    exact next_is_new H₁.fr
  · intro p hp hI
    exact absurd (H₁.lt p hp) ((List.mem_singleton.mp hI) ▸ Nat.lt_irrefl _)
  · rintro i h ⟨⟨o, ho, _⟩, _⟩ b hb
    rw [List.mem_singleton.mp hb]
    exact ⟨o, ho⟩
  · rw [List.mem_singleton.mp hp]
    exact hmem i m n hJ
  · intro a ha hn _
    rcases List.mem_cons.mp ha with e | ha
    · exact absurd (List.mem_singleton.mpr e) hn
    · rw [List.mem_singleton.mp ha]
      exact ⟨_, .head _⟩
  · exact fun i v m₂ n₂ fz' hi hv hJ => turn i v m₂ n₂ fz' hv hJ
  · exact fun m₂ n₂ h' tk' hJ H' => k _ _ _ h' tk' (done m₂ n₂ hJ) H'

theorem Wp_while {test : PySem.Expr} {body : List Stmt} {pos : Pos} {Q : Flow → Mp → Led → Prop} (J : Nat → Mp → Led → Prop) {n₀ : Nat} (hJ : J n₀ m nw)
    (turn : ∀ n m₁ n₁, J n m₁ n₁ → Wp w A g L fz m₁ n₁ (PySem.isTrue test env (eval test env)) fun b m₂ n₂ => if b = true then Wp w A g L fz m₂ n₂ (execs body env) (fun f m₃ n₃ => f = .next ∧ ∃ n', n' < n ∧ J n' m₃ n₃) else Q .next m₂ n₂) :
    Wp w A g L fz m nw (exec (.While test body [] pos) env) Q := fun s Q' H k => by
  refine While_inv (fun n m' news' => ∃ n', news' = n' ++ fz ∧ ((n' ++ fz).map (·.1)).Nodup ∧ J n m' n') H.fr H.ns ⟨nw, rfl, H.nd, hJ⟩ ?_ passes
  rintro n m₁ news₁ h₁ tk₁ F N ⟨n₁, rfl, nd, j⟩
  refine turn n m₁ n₁ j _ _ ⟨F, N, nd⟩ ?_
  intro b m₂ n₂ h₂ tk₂ hb H₂
  cases b with
  | false =>
    simp only [Bool.false_eq_true, if_false] at hb ⊢
    exact k _ _ _ _ _ hb H₂
  | true =>
    simp only [if_true] at hb ⊢
    refine hb _ _ H₂ ?_
    rintro f m₃ n₃ h₃ tk₃ ⟨rfl, n', hn, hJ'⟩ H₃
    exact .intro H₃.fr H₃.ns hn ⟨n₃, rfl, H₃.nd, hJ'⟩
end
end Mine
end

section
open PySem PySem.W PyProof.Rows PyProof.V PySem.Calls
set_option maxRecDepth 100000
namespace Mine
section
variable {α β : Type} {w : World} {A : Around} {g : Heap} {L : Addr} {fz : Led} {m : Mp} {nw : Led} {env : Env}

theorem Wp_iadd {a b : Int} {t u : Tok} {Q : Value → Mp → Led → Prop} (h : ∀ t', Q (.int (a + b) t') m nw) : Wp w A g L fz m nw (inplaceOp .Add (.int a t) (.int b u)) Q :=
  fun s _ H k => wpAny_iadd_int (k _ m nw s.heap _ (h _) H)
theorem Wp_siadd {x y : Str} {t u : Tok} {Q : Value → Mp → Led → Prop} (hz : x.length + y.length ≤ sizeLine) (h : ∀ t', Q (.str (x ++ y) t') m nw) : Wp w A g L fz m nw (inplaceOp .Add (.str x t) (.str y u)) Q :=
  fun s _ H k => SBL.iadd (fun t' _ _ => k _ m nw s.heap _ (h t') H) hz
/-- a frame that may call -/
structure Cr (w : World) (A : Around) (env : Env) (g : Heap) : Prop where
  gd : Gd w g
  below : ∃ A₀ base outer, Below A₀ base outer g ∧ A.frames = some (env :: outer)
  frame : env.frame = some env.locals
  kind : env.scope.kind = .function

theorem Wp_fdiv {env₀ : Env} {a b : Int} {t u : Tok} {Q : Value → Mp → Led → Prop} (C : Cr w A env₀ g) (h1 : env₀.scope.isGenerator = false) (h2 : env₀.scope.isCoroutine = false) (h3 : env₀.builtins = builtinsNs) (h4 : env₀.globals = mainGlobals)
    (hd : A.depth + Builtin.pylongFrames < recursionLimit) (hb : b ≠ 0) (h : ∀ t', Q (.int (a.fdiv b) t') m nw) : Wp w A g L fz m nw (binaryOp .FloorDiv (.int a t) (.int b u)) Q :=
  fun s _ H k => by
    obtain ⟨mean, mg, mb, T⟩ := C.gd.ex
    obtain ⟨A₀, base, outer, B, hA⟩ := C.below
    exact floordiv_int hb (k _ m nw s.heap _ (h _) H) (Or.inr (PySem.PylongRoom.of (Heap.NoLimit.keeps T.nolimit H.fr.keep) hd (SeerAt.of (env := env₀) (l := outer) (PyProof.Rows.Top.seer (T.keeps H.fr.keep) (by kernel_rfl)) rfl hA h1 h2 h3 h4)))
theorem Wp_pow {a n : Int} {t u : Tok} {Q : Value → Mp → Led → Prop} (hn : 0 ≤ n) (hz : (Builtin.Int.intBits a : Int) * n ≤ 2 ^ 27) (h : ∀ t', Q (.int (a ^ n.toNat) t') m nw) : Wp w A g L fz m nw (binaryOp .Pow (.int a t) (.int n u)) Q :=
  fun s _ H k => pow_int hn hz (k _ m nw s.heap _ (h _) H)

-- methods
theorem Wp_meth {o : PySem.Expr} {name : Str} {apos pos : Pos} {args : List PySem.Expr} {pl : Sem Bool} {Q : Value → Mp → Led → Prop}
    (he : eval (.Call (.Attribute o name apos) args [] pos) env = (do
      let ov ← eval o env
      standAt apos.atName
      let (f, first) ← holding [ov] (getMethod ov name pl)
      callWith pos f first (backTo pos (starEach args env)) (backToKw pos (keywordEach [] env))))
    (h : Wp w A g L fz m nw (eval o env) fun ov m₁ n₁ => Wp w A g L fz m₁ n₁ (getMethod ov name pl) fun fx m₂ n₂ => Wp w A g L fz m₂ n₂ (callWith pos fx.1 fx.2 (backTo pos (starEach args env)) []) Q) :
    Wp w A g L fz m nw (eval (.Call (.Attribute o name apos) args [] pos) env) Q :=
  fun s Q' H k => methodCall_KW (kws := []) (h s _ H fun _ _ _ _ _ ha H₁ => ha _ _ H₁ fun _ _ _ _ _ hb H₂ => hb _ Q' H₂ k) he
theorem Wp_cwM0 {pos : Pos} {id : String} {first : List Value} {Q : Value → Mp → Led → Prop} (h : Wp w A g L fz m nw (call (.builtin id) first) Q) : Wp w A g L fz m nw (callWith pos (.builtin id) first (backTo pos (starEach [] env)) []) Q :=
  fun s Q' H k => callWith_method0 (h s Q' H k)
theorem Wp_cwM1 {pos : Pos} {id : String} {first : List Value} {e : PySem.Expr} {rest : List PySem.Expr} {Q : Value → Mp → Led → Prop} (he : starEach (e :: rest) env = (false, eval e env) :: starEach rest env) (hp : (backTo pos (starEach rest env)).any (·.1) = false)
    (h : Wp w A g L fz m nw (spliced (backTo pos (starEach (e :: rest) env))) fun vs m₁ n₁ => Wp w A g L fz m₁ n₁ (call (.builtin id) (first ++ vs)) Q) : Wp w A g L fz m nw (callWith pos (.builtin id) first (backTo pos (starEach (e :: rest) env)) []) Q :=
  fun s Q' H k => callWith_method1 (h s _ H fun _ _ _ _ _ ha H₁ => ha _ Q' H₁ k) he hp
theorem Wp_gmAppend {l : Addr} {its : Array Value} {c : Nat} {pl : Sem Bool} {Q : Value × List Value → Mp → Led → Prop} (hl : At g nw l (listOf its c)) (h : Q (.builtin "list.append", [.ref l]) m nw) : Wp w A g L fz m nw (getMethod (.ref l) "append" pl) Q :=
  fun s _ H k => getMethod_list_append (hl.get H) rfl rfl (k _ m nw s.heap s.toks h H)
theorem Wp_gmJoin {x : Str} {t : Tok} {pl : Sem Bool} {Q : Value × List Value → Mp → Led → Prop} (h : Q (.builtin "str.join", [.str x t]) m nw) : Wp w A g L fz m nw (getMethod (.str x t) "join" pl) Q :=
  fun s _ H k => GM.join (k _ m nw s.heap s.toks h H)
theorem Wp_gmLower {x : Str} {t : Tok} {pl : Sem Bool} {Q : Value × List Value → Mp → Led → Prop} (h : Q (.builtin "str.lower", [.str x t]) m nw) : Wp w A g L fz m nw (getMethod (.str x t) "lower" pl) Q :=
  fun s _ H k => GM.lower (k _ m nw s.heap s.toks h H)
theorem Wp_lower {x : Str} {t : Tok} {Q : Value → Mp → Led → Prop} (hz : x.length ≤ 5592405) (h : ∀ t', Q (.str (Txt.lower x) t') m nw) : Wp w A g L fz m nw (call (.builtin "str.lower") [.str x t]) Q :=
  fun s _ H k => SCL.lower hz fun _ => k _ m nw s.heap _ (h _) H
theorem Wp_join {x : Str} {t : Tok} {l : Addr} {its : Array Value} {c : Nat} {ys : List Str} {Q : Value → Mp → Led → Prop} (hl : At g nw l (listOf its c)) (hi : StrsAre its.toList ys) (hz : (ys.map (·.length)).sum + ys.length * x.length ≤ 16777216) (h : ∀ t', Q (.str (Txt.join x ys) t') m nw) :
    Wp w A g L fz m nw (call (.builtin "str.join") [.str x t, .ref l]) Q :=
  fun s _ H k => join_list (hl.list H) hi hz fun t' _ => k _ m nw s.heap _ (h t') H
theorem Wp_setL {l : Addr} {vs : List Value} {ns : List Int} {c : Nat} {k x : Int} {t u : Tok} {Q : Unit → Mp → Led → Prop} (hl : (l, listOf vs.toArray c) ∈ nw) (hi : IntsAre vs ns) (h0 : 0 ≤ k) (h1 : k < ns.length) (hf : k < 2 ^ 63)
    (h : IntsAre (vs.set k.toNat (.int x u)) (ns.set k.toNat x) → Q () m (updL nw l (listOf (vs.set k.toNat (.int x u)).toArray c))) : Wp w A g L fz m nw (setItem (.ref l) (.int k t) (.int x u)) Q :=
  fun s _ H kk => ksa_set H.fr H.ns (upd_of_nodup H.nd hl) hi h0 h1 hf fun h' F N hi' _ _ => kk _ _ _ h' s.toks (h hi') (H.upd F N)
theorem Wp_asub {o i : PySem.Expr} {pos' pos : Pos} {value : PySem.Expr} {Q : Flow → Mp → Led → Prop} (hs : swapsWith value (some (.Subscript o i pos')) pos.line env = pure false)
    (h : Wp w A g L fz m nw (eval value env) fun v m₁ n₁ => Wp w A g L fz m₁ n₁ (eval o env) fun ov m₂ n₂ => Wp w A g L fz m₂ n₂ (eval i env) fun iv m₃ n₃ => Wp w A g L fz m₃ n₃ (setItem ov iv v) fun _ m₄ n₄ => Q .next m₄ n₄) :
    Wp w A g L fz m nw (exec (.Assign [.Subscript o i pos'] value pos) env) Q :=
  fun s Q' H k => wpAny_Assign_Subscript (h s _ H fun _ _ _ _ _ h₁ H₁ => h₁ _ _ H₁ fun _ _ _ _ _ h₂ H₂ => h₂ _ _ H₂ fun _ _ _ _ _ h₃ H₃ => h₃ _ _ H₃ fun _ _ _ _ _ h₄ H₄ => k _ _ _ _ _ h₄ H₄) hs

-- slices
theorem Wp_sliceS {value lo hi : PySem.Expr} {p pos : Pos} {Q : Value → Mp → Led → Prop}
    (hs : ∀ x t a, subscripted (.Slice (some lo) (some hi) none p) false (.str x t) (.ref a) = operate [.ref a, .str x t] (getItem (.str x t) (.ref a)))
    (ht : ∀ x t r, letTemporaryGo value (.str x t) r = pure ())
    (h : Wp w A g L fz m nw (eval value env) fun o m₁ n₁ => ∃ x t, o = .str x t ∧ x.length ≤ sizeLine ∧ Wp w A g L fz m₁ n₁ (eval lo env) fun a m₂ n₂ => ∃ i ti, a = .int i ti ∧ Wp w A g L fz m₂ n₂ (eval hi env) fun b m₃ n₃ =>
      ∃ j tj, b = .int j tj ∧ ∀ t', Q (.str (Txt.slice x (some i) (some j)) t') m₃ n₃) : Wp w A g L fz m nw (eval (.Subscript value (.Slice (some lo) (some hi) none p) pos) env) Q := fun s Q' H k => by
  refine Subscript_ (h s _ H ?_)
  rintro o m₁ n₁ h₁ tk₁ ⟨x, t, rfl, hz, h₁'⟩ H₁
  refine wpAny_Slice (wpAny_evalPart_some (h₁' _ _ H₁ ?_))
  rintro a m₂ n₂ h₂ tk₂ ⟨i, ti, rfl, h₂'⟩ H₂
  refine wpAny_evalPart_some (h₂' _ _ H₂ ?_)
  rintro b m₃ n₃ h₃ tk₃ ⟨j, tj, rfl, hq⟩ H₃
  refine wpAny_evalPart_none ?_
  exact slice_strN_ss (s := { s with heap := h₃, toks := tk₃ }) H₃.fr H₃.ns (fun h' t' tk F N => k _ _ _ h' tk (hq t') ⟨F, N, H₃.nd⟩) (hs _ _ _) (ht _ _) hz
theorem Wp_sliceL {value lo hi : PySem.Expr} {p pos : Pos} {Q : Value → Mp → Led → Prop}
    (hs : ∀ x a, subscripted (.Slice (some lo) (some hi) none p) false (.ref x) (.ref a) = operate [.ref a, .ref x] (getItem (.ref x) (.ref a)))
    (ht : ∀ x r, letTemporaryGo value (.ref x) r = pure ())
    (h : Wp w A g L fz m nw (eval value env) fun o m₁ n₁ => ∃ l, o = .ref l ∧ Wp w A g L fz m₁ n₁ (eval lo env) fun a m₂ n₂ => ∃ i ti, a = .int i ti ∧ Wp w A g L fz m₂ n₂ (eval hi env) fun b m₃ n₃ =>
      ∃ j tj its c, b = .int j tj ∧ At g n₃ l (listOf its c) ∧ its.size ≤ sizeLine ∧ ∀ d, New n₃ d → Q (.ref d) m₃ ((d, listOf (slicePick its (some i) (some j) none) 0) :: n₃)) :
    Wp w A g L fz m nw (eval (.Subscript value (.Slice (some lo) (some hi) none p) pos) env) Q := fun s Q' H k => by
  refine Subscript_ (h s _ H ?_)
  rintro o m₁ n₁ h₁ tk₁ ⟨l, rfl, h₁'⟩ H₁
  refine wpAny_Slice (wpAny_evalPart_some (h₁' _ _ H₁ ?_))
  rintro a m₂ n₂ h₂ tk₂ ⟨i, ti, rfl, h₂'⟩ H₂
  refine wpAny_evalPart_some (h₂' _ _ H₂ ?_)
  rintro b m₃ n₃ h₃ tk₃ ⟨j, tj, its, c, rfl, hl, hz, hq⟩ H₃
  refine wpAny_evalPart_none ?_
  have hd : ∀ p ∈ n₃ ++ fz, p.1 ≠ h₃.objs.size + 1 := fun p hp => Nat.ne_of_lt (Nat.lt_succ_of_lt (H₃.lt p hp))
  exact slice_list (s := { s with heap := h₃, toks := tk₃ }) H₃.fr H₃.ns (hl.list H₃) (.int i ti) (.int j tj) (fun h' F N => k _ _ _ h' _ (hq _ (New.of hd)) (H₃.alloc hd F N)) (hs _ _) (ht _) hz

-- unpacking a pair
theorem Wp_unpack {elts : List PySem.Expr} {kk : Nat} {tpos pos : Pos} {value : PySem.Expr} {Q : Flow → Mp → Led → Prop} (hh : A.handled = none)
    (hs : swapsWithSole [.Tuple elts kk tpos] value pos.line env = pure false) (hw : swappedStores [.Tuple elts kk tpos] value env = pure none) (hstar : (assignEach elts env).findIdx? (·.1) = none)
    (h : Wp w A g L fz m nw (eval value env) fun v m₁ n₁ => ∃ t its c, v = .ref t ∧ At g n₁ t (tupOf its c) ∧ (assignEach elts env).length = its.size ∧ Wp w A g L fz m₁ n₁ (assignInOrder ((assignEach elts env).map (·.2)) its.toList) fun _ m₂ n₂ => Q .next m₂ n₂) :
    Wp w A g L fz m nw (exec (.Assign [.Tuple elts kk tpos] value pos) env) Q := fun s Q' H k => by
  refine Assign_Tuple (h s _ H ?_) hs hw
  rintro v m₁ n₁ h₁ tk₁ ⟨t, its, c, rfl, ht, hn, h₂⟩ H₁
  exact unpackN_ (s := { s with heap := h₁, toks := tk₁ }) H₁.fr H₁.ns (ht.tup H₁) hh hn hstar fun h' F N => h₂ _ _ ⟨F, N, H₁.nd⟩ fun _ m₂ n₂ h₂ tk₂ hq H₂ => k _ _ _ _ _ hq H₂
theorem Wp_aio_nil {xs : List Value} {Q : Unit → Mp → Led → Prop} (h : Q () m nw) : Wp w A g L fz m nw (assignInOrder [] xs) Q := fun s _ H k => assignInOrder_nil (k () m nw s.heap s.toks h H)
theorem Wp_aio_cons {t : Value → Sem Unit} {ts : List (Value → Sem Unit)} {x : Value} {xs : List Value} {Q : Unit → Mp → Led → Prop} (h : Wp w A g L fz m nw (t x) fun _ m₁ n₁ => Wp w A g L fz m₁ n₁ (assignInOrder ts xs) Q) : Wp w A g L fz m nw (assignInOrder (t :: ts) (x :: xs)) Q :=
  fun s Q' H k => assignInOrder_cons (h s _ H fun _ _ _ _ _ ha H₁ => ha _ Q' H₁ k)
theorem Wp_asgName {x : Str} {pos : Pos} {v : Value} {Q : Unit → Mp → Led → Prop} (h : Wp w A g L fz m nw (storeName env x v) Q) : Wp w A g L fz m nw (assign (.Name x pos) env v) Q :=
  fun s Q' H k => PyProof.Rows.assign_Name (h s Q' H k)

theorem Wp_enter {f : Addr} {nm : Str} {params : Arguments} {body : List Stmt} {scope : Scope} {dV kV doc pm cdv ct oc : Value} {an od : Option Addr} {osl : Array (Option Value)} {vs : List Value} {binds : List (Str × Value)} {Q : Value → Mp → Led → Prop}
    (C : Cr w A env g) (hroom : A.depth < recursionLimit)
    (ho : (K w.params).lookup f = some ⟨oc, od, .func (fnOf nm nm params body scope dV kV doc pm an cdv ct), osl⟩) (hcd : codeIn (K w.params) cdv nm = true)
    (hbind : bindArgs (fnOf nm nm params body scope dV kV doc pm an cdv ct) ⟨vs, []⟩ = pure binds) (hloc : ∀ y ∈ binds, scope.names.lookup y.1 = some .local)
    (hco : scope.isCoroutine = false) (hgen : scope.isGenerator = false) (hk : scope.kind = .function) (hcell : ∀ x ∈ scope.names, x.2 ≠ .cell)
    (h : ∀ g' L', Cr w (A.deeper (envOf nm scope L' f cdv)) (envOf nm scope L' f cdv) g' →
      Wp w (A.deeper (envOf nm scope L' f cdv)) g' L' fz (fun y => binds.reverse.lookup y) nw (execs body (envOf nm scope L' f cdv)) fun fl _ n' => ∃ v, fl = .ret v ∧ Q v m n') :
    Wp w A g env.locals fz m nw (call (.ref f) vs) Q := fun s Q' H k => by
  obtain ⟨A₀, base, outer, B, hA⟩ := C.below
  obtain ⟨mean, mg, mb, T⟩ := C.gd.ex
  refine wpAny_call (code_def (K := K w.params) B H.fr C.gd.inK H.ns T hA C.frame C.kind ho hcd hroom (BindsTo.of_eq hbind) hloc ?_ hco hgen hk hcell)
  intro g' L' h₁ FG F' N' B' X' T'
  have C' : Cr w (A.deeper (envOf nm scope L' f cdv)) (envOf nm scope L' f cdv) g' := ⟨⟨⟨mean, mg, mb, T'⟩, X'⟩, ⟨_, _, _, B', by show (A.frames.map ((envOf nm scope L' f cdv) :: ·)) = _; rw [hA]; rfl⟩, rfl, hk⟩
  refine wpAny_mono (h g' L' C' _ (fun fl s' => LeaveK g env.locals m g' _ (match fl with | .ret v => v | _ => .none) s') ⟨F', N', H.nd⟩ ?_) (fun _ _ x => x) fun _ _ x => x.elim
  rintro fl m' n' h' tk' ⟨v, rfl, hq⟩ H'
  exact ⟨L', m', n' ++ fz, H'.fr, H'.ns, fun F N => k v m n' h' tk' hq ⟨F, N, H'.nd⟩⟩
end
end Mine
end

section
open PySem PySem.W PyProof.Rows PyProof.V PySem.Calls
set_option maxRecDepth 100000
namespace Mine
section
variable {α β : Type} {w : World} {A : Around} {g : Heap} {L : Addr} {fz : Led} {m : Mp} {nw : Led} {env : Env}
theorem Wp_itemI {value slice : PySem.Expr} {l : Addr} {vs : List Value} {ns : List Int} {n : Nat} {k : Int} {u : Tok} {Q : Value → Mp → Led → Prop}
    (hs : subscripted slice false (.ref l) (.int k u) = operate [.ref l, .int k u] (getItem (.ref l) (.int k u)))
    (hl : At g nw l (listOf vs.toArray n)) (hi : IntsAre vs ns) (h0 : 0 ≤ k) (h1 : k < ns.length) (hf : k < 2 ^ 63) (h : ∀ t, Q (.int (ns.getD k.toNat 0) t) m nw) : Wp w A g L fz m nw (subscriptTail value slice (.ref l) (.int k u)) Q :=
  fun s _ H kk => tail_any (hl.list H).typeIs slot_list_getitem.lookup (getItem_intsK (hl.list H) hi h0 h1 hf fun t => kk _ m nw s.heap s.toks (h t) H) hs
theorem Wp_step {st : Stmt} {rest : List Stmt} {Q : Flow → Mp → Led → Prop}
    (h : Wp w A g L fz m nw (exec st env) fun f m₁ n₁ => f = .next ∧ Wp w A g L fz m₁ n₁ (execs rest env) Q) : Wp w A g L fz m nw (execs (st :: rest) env) Q :=
  Wp_cons (Wp_mono h fun f m₁ n₁ x => by obtain ⟨rfl, x⟩ := x; exact x)
theorem Wp_rets {e : PySem.Expr} {pos : Pos} {rest : List Stmt} {Q : Flow → Mp → Led → Prop}
    (h : Wp w A g L fz m nw (eval e env) fun v m₁ n₁ => Q (.ret v) m₁ n₁) : Wp w A g L fz m nw (execs (.Return (some e) pos :: rest) env) Q :=
  Wp_cons (Wp_ret h)
theorem upd_eq {m : Mp} {x : Str} {v : Value} : upd m x v x = some v := if_pos rfl
theorem upd_ne {m : Mp} {x y : Str} {v : Value} (h : y ≠ x) : upd m x v y = m y := if_neg h
theorem ite_t {c : Bool} {P R : Prop} (hc : c = true) (h : P) : if c = true then P else R := by rw [if_pos hc]; exact h
theorem ite_f {c : Bool} {P R : Prop} (hc : c = false) (h : R) : if c = true then P else R := by rw [if_neg (by rw [hc]; exact Bool.false_ne_true)]; exact h
theorem Wp_whileX {test : PySem.Expr} {body : List Stmt} {pos : Pos} {Q : Flow → Mp → Led → Prop} (J : Nat → Mp → Led → Prop) (Ex : Mp → Led → Prop) {n₀ : Nat} (hJ : J n₀ m nw)
    (turn : ∀ n m₁ n₁, J n m₁ n₁ → Wp w A g L fz m₁ n₁ (PySem.isTrue test env (eval test env)) fun b m₂ n₂ => if b = true then Wp w A g L fz m₂ n₂ (execs body env) (fun f m₃ n₃ => f = .next ∧ ∃ n', n' < n ∧ J n' m₃ n₃) else Ex m₂ n₂)
    (done : ∀ m₂ n₂, Ex m₂ n₂ → Q .next m₂ n₂) : Wp w A g L fz m nw (exec (.While test body [] pos) env) Q :=
  Wp_while J hJ fun n m₁ n₁ hj => Wp_mono (turn n m₁ n₁ hj) fun b m₂ n₂ x => by
    cases b with
    | true => exact x
    | false => simp only [Bool.false_eq_true, if_false] at x ⊢; exact done _ _ x
theorem ints_replicate (t : Tok) : ∀ n : Nat, IntsAre (List.replicate n (.int 0 t)) (List.replicate n 0)
  | 0 => .nil
  | n + 1 => .cons 0 t (ints_replicate t n)
theorem fold_rep {v : Value} : ∀ n : Nat, List.foldl (fun x1 x2 => x1 ++ x2) #[] (List.replicate n #[v]) = (List.replicate n v).toArray := by
  have key : ∀ (n : Nat) (a : Array Value), List.foldl (fun x1 x2 => x1 ++ x2) a (List.replicate n #[v]) = a ++ (List.replicate n v).toArray := by
    intro n
    induction n with
    | zero => intro a; simp
    | succ n ih =>
      intro a
      rw [List.replicate_succ, List.foldl_cons, ih, List.replicate_succ]
      apply Array.toList_inj.mp
      simp
  intro n
  rw [key]
  simp
theorem mul_one_list {v : Value} {n : Nat} : List.foldl (fun x1 x2 => x1 ++ x2) #[] (List.replicate (if (#[v] : Array Value).isEmpty = true then 0 else n) #[v]) = (List.replicate n v).toArray := by
  rw [if_neg (by simp)]
  exact fold_rep n
end
end Mine
end

section
/-! The plain law: Knuth, Morris, Pratt (no program in sight) -/
namespace Mine

/-- the longest beginning of W, of b letters at most, that ends T -/
def Best (W : List Int) (b : Nat) (T : List Int) (k : Nat) : Prop := W.take k <:+ T ∧ k ≤ b ∧ ∀ k', k' ≤ b → W.take k' <:+ T → k' ≤ k
/-- the beginnings of fewer than b letters that end T and go on by c: none is longer than k -/
def Cand (W : List Int) (b : Nat) (T : List Int) (c : Int) (k : Nat) : Prop := W.take k <:+ T ∧ k < b ∧ ∀ k', k' < b → W.take k' <:+ T → W.getD k' 0 = c → k' ≤ k
abbrev IsBd (W : List Int) (i k : Nat) : Prop := Best W i (W.take (i + 1)) k

theorem cand_start {W T : List Int} {b k : Nat} {c : Int} (h : Best W b T k) : Cand W (b + 1) T c k :=
  ⟨h.1, Nat.lt_succ_of_le h.2.1, fun k' h1 h2 _ => h.2.2 k' (Nat.le_of_lt_succ h1) h2⟩
theorem cand_step {W T : List Int} {b k k₂ : Nat} {c : Int} (h : Cand W b T c k) (hb : b ≤ W.length) (h0 : 0 < k) (hc : c ≠ W.getD k 0) (hk : IsBd W (k - 1) k₂) : Cand W b T c k₂ ∧ k₂ < k := by
  obtain ⟨h1, h2, h3⟩ := h
  have e : k - 1 + 1 = k := by omega
  obtain ⟨b1, b2, b3⟩ := hk
  rw [e] at b1 b3
  refine ⟨⟨b1.trans h1, by omega, fun k' a1 a2 a3 => ?_⟩, by omega⟩
  have le := h3 k' a1 a2 a3
  have ne : k' ≠ k := fun e => hc (e ▸ a3.symm)
  refine b3 k' (by omega) ?_
  exact List.suffix_of_suffix_length_le a2 h1 (by rw [List.length_take, List.length_take]; omega)
theorem take_succ_getD {W : List Int} {k : Nat} (h : k < W.length) : W.take (k + 1) = W.take k ++ [W.getD k 0] := by
  rw [List.take_succ_eq_append_getElem h, List.getD_eq_getElem?_getD, List.getElem?_eq_getElem h]
  rfl
theorem suffix_snoc {a T : List Int} {x c : Int} (h : a ++ [x] <:+ T ++ [c]) : a <:+ T ∧ x = c := by
  obtain ⟨t, e⟩ := h
  rw [← List.append_assoc] at e
  have := List.append_inj' e rfl
  exact ⟨⟨t, this.1⟩, by simpa using this.2⟩
theorem best_hit {W T : List Int} {b k : Nat} {c : Int} (h : Cand W b T c k) (hb : b ≤ W.length) (hc : c = W.getD k 0) : Best W b (T ++ [c]) (k + 1) := by
  obtain ⟨h1, h2, h3⟩ := h
  refine ⟨?_, by omega, fun k' a1 a2 => ?_⟩
  · rw [take_succ_getD (by omega), ← hc]
    obtain ⟨t, e⟩ := h1
    exact ⟨t, by rw [← e, List.append_assoc]⟩
  · cases k' with
    | zero => omega
    | succ j =>
      rw [take_succ_getD (by omega)] at a2
      obtain ⟨s1, s2⟩ := suffix_snoc a2
      have := h3 j (by omega) s1 s2
      omega
theorem best_miss {W T : List Int} {b : Nat} {c : Int} (h : Cand W b T c 0) (hb : b ≤ W.length) (hc : c ≠ W.getD 0 0) : Best W b (T ++ [c]) 0 := by
  obtain ⟨h1, h2, h3⟩ := h
  refine ⟨by rw [List.take_zero]; exact List.nil_suffix, Nat.zero_le _, fun k' a1 a2 => ?_⟩
  cases k' with
  | zero => omega
  | succ j =>
    exfalso
    rw [take_succ_getD (by omega)] at a2
    obtain ⟨s1, s2⟩ := suffix_snoc a2
    have hj := h3 j (by omega) s1 s2
    have : j = 0 := by omega
    subst this
    exact hc s2.symm
theorem bd_zero (W : List Int) : IsBd W 0 0 := ⟨by rw [List.take_zero]; exact List.nil_suffix, Nat.le_refl _, fun _ h _ => h⟩
theorem take_snoc {W : List Int} {i : Nat} (h : i < W.length) : W.take (i + 1) = W.take i ++ [W.getD i 0] := take_succ_getD h
theorem bd_hit {W : List Int} {i k : Nat} (hi : i < W.length) (h : Cand W i (W.take i) (W.getD i 0) k) (hc : W.getD i 0 = W.getD k 0) : IsBd W i (k + 1) := by
  show Best W i (W.take (i + 1)) (k + 1)
  rw [take_snoc hi]
  exact best_hit h (Nat.le_of_lt hi) hc
theorem bd_miss {W : List Int} {i : Nat} (hi : i < W.length) (h : Cand W i (W.take i) (W.getD i 0) 0) (hc : W.getD i 0 ≠ W.getD 0 0) : IsBd W i 0 := by
  show Best W i (W.take (i + 1)) 0
  rw [take_snoc hi]
  exact best_miss h (Nat.le_of_lt hi) hc
/-- behind a whole find -/
theorem best_found {W T : List Int} {k₂ : Nat} (hW : 0 < W.length) (h : Best W W.length T W.length) (hk : IsBd W (W.length - 1) k₂) : W <:+ T ∧ Best W (W.length - 1) T k₂ := by
  have e : W.length - 1 + 1 = W.length := by omega
  obtain ⟨b1, b2, b3⟩ := hk
  rw [e, List.take_length] at b1 b3
  have h1 : W <:+ T := by have := h.1; rwa [List.take_length] at this
  refine ⟨h1, b1.trans h1, b2, fun k' a1 a2 => b3 k' a1 ?_⟩
  exact List.suffix_of_suffix_length_le a2 h1 (by rw [List.length_take]; omega)
theorem best_not {W T : List Int} {k : Nat} (h : Best W W.length T k) (hk : k < W.length) : ¬ W <:+ T ∧ Best W (W.length - 1) T k :=
  ⟨fun q => by have := h.2.2 W.length (Nat.le_refl _) (by rwa [List.take_length]); omega, h.1, by omega, fun k' a1 a2 => h.2.2 k' (by omega) a2⟩
end Mine
end

section
/-! The plain law, 2: the text's letters with their owners; the automaton's finds -/
namespace Mine
/-- the owner; does it begin there, does it end there; the letter -/
abbrev Cell := Nat × Bool × Bool × Int
def cellsOf (o : Nat) (ls : List Int) : List Cell := (List.range ls.length).map fun a => (o, a == 0, a + 1 == ls.length, ls.getD a 0)
def cells (fs : List (List Int)) : List Cell := (List.range fs.length).flatMap fun o => cellsOf o (fs.getD o [])
def lets (cs : List Cell) : List Int := cs.map fun c => c.2.2.2
def stepF (W : List Int) (cs : List Cell) (c : Cell) : List (Int × Int × Bool) :=
  if W.isSuffixOf (lets (cs ++ [c])) then (match (cs ++ [c])[cs.length + 1 - W.length]? with | some s => [((s.1 : Int), (c.1 : Int), s.2.1 && c.2.2.1)] | none => []) else []
def findsOf (W : List Int) (cs : List Cell) : List (Int × Int × Bool) := (List.range cs.length).flatMap fun j => match cs[j]? with | some c => stepF W (cs.take j) c | none => []
theorem findsOf_snoc (W : List Int) (cs : List Cell) (c : Cell) : findsOf W (cs ++ [c]) = findsOf W cs ++ stepF W cs c := by
  unfold findsOf
  rw [List.length_append, List.length_singleton, List.range_succ, List.flatMap_append]
  congr 1
  · rw [List.flatMap_def, List.flatMap_def]
    congr 1
    apply List.map_congr_left
    intro j hj
    have hj := List.mem_range.mp hj
    rw [List.getElem?_append_left hj, List.take_append_of_le_length (Nat.le_of_lt hj)]
  · simp
def pre (fs : List (List Int)) (o a : Nat) : List Cell := cells (fs.take o) ++ (cellsOf o (fs.getD o [])).take a
theorem cellsOf_length (o : Nat) (ls : List Int) : (cellsOf o ls).length = ls.length := by simp [cellsOf]
theorem pre_zero (fs : List (List Int)) (o : Nat) : pre fs o 0 = cells (fs.take o) := by simp [pre]
theorem pre_succ {fs : List (List Int)} {o a : Nat} (h : a < (fs.getD o []).length) : pre fs o (a + 1) = pre fs o a ++ [(o, a == 0, a + 1 == (fs.getD o []).length, (fs.getD o []).getD a 0)] := by
  unfold pre
  rw [List.append_assoc]
  congr 1
  have h' : a < (cellsOf o (fs.getD o [])).length := by rw [cellsOf_length]; exact h
  rw [List.take_succ_eq_append_getElem h']
  congr 1
  simp [cellsOf]
theorem cells_take_succ {fs : List (List Int)} {o : Nat} (h : o < fs.length) : cells (fs.take (o + 1)) = cells (fs.take o) ++ cellsOf o (fs.getD o []) := by
  unfold cells
  have l1 : (fs.take (o + 1)).length = o + 1 := by rw [List.length_take]; omega
  have l2 : (fs.take o).length = o := by rw [List.length_take]; omega
  rw [l1, l2, List.range_succ, List.flatMap_append]
  congr 1
  · rw [List.flatMap_def, List.flatMap_def]
    congr 1
    apply List.map_congr_left
    intro j hj
    have hj := List.mem_range.mp hj
    congr 1
    simp [List.getD_eq_getElem?_getD, List.getElem?_take, hj, Nat.lt_succ_of_lt hj]
  · simp [List.getD_eq_getElem?_getD, List.getElem?_take]
theorem pre_full {fs : List (List Int)} {o : Nat} (h : o < fs.length) : pre fs o (fs.getD o []).length = cells (fs.take (o + 1)) := by
  rw [cells_take_succ h]
  unfold pre
  congr 1
  rw [← cellsOf_length o]
  exact List.take_length
end Mine
namespace Mine
theorem cells_len {fs : List (List Int)} (h : ∀ l ∈ fs, l.length ≤ 3) : ∀ o, o ≤ fs.length → (cells (fs.take o)).length ≤ 3 * o
  | 0, _ => by simp [cells]
  | o + 1, ho => by
    rw [cells_take_succ (by omega), List.length_append, cellsOf_length]
    have a := cells_len h o (by omega)
    have b : (fs.getD o []).length ≤ 3 := by
      rw [List.getD_eq_getElem?_getD, List.getElem?_eq_getElem (by omega)]
      exact h _ (List.getElem_mem _)
    omega
theorem pre_len {fs : List (List Int)} (h : ∀ l ∈ fs, l.length ≤ 3) {o a : Nat} (ho : o < fs.length) (ha : a ≤ (fs.getD o []).length) : (pre fs o a).length ≤ 3 * o + a := by
  unfold pre
  rw [List.length_append, List.length_take]
  have := cells_len h o (by omega)
  omega
theorem lets_snoc (cs : List Cell) (c : Cell) : lets (cs ++ [c]) = lets cs ++ [c.2.2.2] := by simp [lets]
theorem lets_length (cs : List Cell) : (lets cs).length = cs.length := by simp [lets]
end Mine
namespace Mine
theorem stepF_no {W : List Int} {cs : List Cell} {c : Cell} (h : ¬ W <:+ lets cs ++ [c.2.2.2]) : stepF W cs c = [] := by
  unfold stepF
  rw [lets_snoc, if_neg (fun q => h (List.isSuffixOf_iff_suffix.mp q))]
theorem stepF_yes {W : List Int} {cs : List Cell} {c s : Cell} (h : W <:+ lets cs ++ [c.2.2.2]) (hs : (cs ++ [c])[cs.length + 1 - W.length]? = some s) : stepF W cs c = [((s.1 : Int), (c.1 : Int), s.2.1 && c.2.2.1)] := by
  unfold stepF
  rw [lets_snoc, if_pos (List.isSuffixOf_iff_suffix.mpr h), hs]
end Mine
namespace Mine
theorem stepF_len (W : List Int) (cs : List Cell) (c : Cell) : (stepF W cs c).length ≤ 1 := by
  unfold stepF
  split
  · split <;> simp
  · simp
theorem flat_len {α : Type} (f : Nat → List α) (h : ∀ j, (f j).length ≤ 1) : ∀ n, ((List.range n).flatMap f).length ≤ n
  | 0 => by simp
  | n + 1 => by
    rw [List.range_succ, List.flatMap_append, List.length_append]
    have a := flat_len f h n
    have b := h n
    simp only [List.flatMap_cons, List.flatMap_nil, List.append_nil]
    omega
theorem findsOf_len (W : List Int) (cs : List Cell) : (findsOf W cs).length ≤ cs.length :=
  flat_len _ (fun j => by split; exact stepF_len ..; simp) _
end Mine
end

section
/-! The plain law, 3: the reading of the folded text and the automaton's finds are the same list -/
namespace Mine
def owns (cs : List Cell) : List Int := cs.map fun c => (c.1 : Int)
theorem owns_length (cs : List Cell) : (owns cs).length = cs.length := by simp [owns]
theorem owns_get {cs : List Cell} {p : Nat} {c : Cell} (h : cs[p]? = some c) : (owns cs).getD p 0 = (c.1 : Int) := by
  rw [owns, List.getD_eq_getElem?_getD, List.getElem?_map, h]; rfl
def readStep (W : List Int) (cs : List Cell) (p : Nat) : List (Int × Int × Bool) :=
  if ((lets cs).drop p).take W.length = W then
    [((owns cs).getD p 0, (owns cs).getD (p + W.length - 1) 0, (p == 0 || (owns cs).getD (p - 1) 0 != (owns cs).getD p 0) && (p + W.length == cs.length || (owns cs).getD (p + W.length) 0 != (owns cs).getD (p + W.length - 1) 0))]
  else []
def readOf (W : List Int) (cs : List Cell) : List (Int × Int × Bool) := (List.range (cs.length + 1 - W.length)).flatMap (readStep W cs)
def Good (cs : List Cell) : Prop := ∀ p c, cs[p]? = some c → c.2.1 = (p == 0 || (owns cs).getD (p - 1) 0 != (c.1 : Int)) ∧ c.2.2.1 = (p + 1 == cs.length || (owns cs).getD (p + 1) 0 != (c.1 : Int))
theorem owns_app_l {A B : List Cell} {p : Nat} (h : p < A.length) : (owns (A ++ B)).getD p 0 = (owns A).getD p 0 := by
  rw [owns, List.map_append, List.getD_eq_getElem?_getD, List.getD_eq_getElem?_getD, List.getElem?_append_left (by rw [List.length_map]; exact h)]; rfl
theorem owns_app_r {A B : List Cell} {p : Nat} : (owns (A ++ B)).getD (A.length + p) 0 = (owns B).getD p 0 := by
  rw [owns, List.map_append, List.getD_eq_getElem?_getD, List.getD_eq_getElem?_getD, List.getElem?_append_right (by rw [List.length_map]; omega), List.length_map, Nat.add_sub_cancel_left]; rfl
theorem cellsOf_get {o : Nat} {ls : List Int} {a : Nat} {c : Cell} (h : (cellsOf o ls)[a]? = some c) : a < ls.length ∧ c = (o, a == 0, a + 1 == ls.length, ls.getD a 0) := by
  have hl : a < (cellsOf o ls).length := (List.getElem?_eq_some_iff.mp h).1
  rw [cellsOf_length] at hl
  refine ⟨hl, ?_⟩
  rw [cellsOf, List.getElem?_map, List.getElem?_range hl] at h
  exact (Option.some.inj h).symm
theorem owns_cellsOf {o : Nat} {ls : List Int} {a : Nat} (h : a < ls.length) : (owns (cellsOf o ls)).getD a 0 = (o : Int) := by
  have : (cellsOf o ls)[a]? = some (o, a == 0, a + 1 == ls.length, ls.getD a 0) := by rw [cellsOf, List.getElem?_map, List.getElem?_range h]; rfl
  rw [owns_get this]
theorem owns_lt {A : List Cell} {o : Nat} (h : ∀ c ∈ A, c.1 < o) {p : Nat} (hp : p < A.length) : (owns A).getD p 0 < (o : Int) := by
  have e : A[p]? = some A[p] := List.getElem?_eq_getElem hp
  rw [owns_get e]
  have := h _ (List.getElem_mem hp)
  omega
theorem good_app {A : List Cell} {o : Nat} {ls : List Int} (hA : Good A) (hlt : ∀ c ∈ A, c.1 < o) : Good (A ++ cellsOf o ls) := by
  intro p c hc
  by_cases hp : p < A.length
  · rw [List.getElem?_append_left hp] at hc
    obtain ⟨h1, h2⟩ := hA p c hc
    have hco : c.1 < o := hlt _ (List.mem_of_getElem? hc)
    constructor
    · rw [h1]
      by_cases h0 : p = 0
      · subst h0; rfl
      · rw [owns_app_l (by omega)]
    · rw [h2, List.length_append, cellsOf_length]
      by_cases he : p + 1 = A.length
      · rw [beq_iff_eq.mpr he, Bool.true_or]
        by_cases hl : ls.length = 0
        · rw [hl, beq_iff_eq.mpr (show p + 1 = A.length + 0 from he), Bool.true_or]
        · have : (owns (A ++ cellsOf o ls)).getD (p + 1) 0 = (o : Int) := by
            rw [he, show A.length = A.length + 0 from rfl, owns_app_r, owns_cellsOf (by omega)]
          rw [this, show ((o : Int) != (c.1 : Int)) = true by rw [bne_iff_ne]; omega, Bool.or_true]
      · rw [owns_app_l (by omega), beq_eq_false_iff_ne.mpr he, beq_eq_false_iff_ne.mpr (show p + 1 ≠ A.length + ls.length by omega)]
  · obtain ⟨a, rfl⟩ : ∃ a, p = A.length + a := ⟨p - A.length, by omega⟩
    rw [List.getElem?_append_right (by omega), Nat.add_sub_cancel_left] at hc
    obtain ⟨ha, rfl⟩ := cellsOf_get hc
    constructor
    · show (a == 0) = (A.length + a == 0 || (owns (A ++ cellsOf o ls)).getD (A.length + a - 1) 0 != (o : Int))
      by_cases h0 : a = 0
      · subst h0
        by_cases hA0 : A.length = 0
        · rw [hA0]; rfl
        · have := owns_lt hlt (p := A.length - 1) (by omega)
          rw [Nat.add_zero, owns_app_l (by omega), show ((owns A).getD (A.length - 1) 0 != (o : Int)) = true by rw [bne_iff_ne]; omega, Bool.or_true]; rfl
      · rw [beq_eq_false_iff_ne.mpr h0, beq_eq_false_iff_ne.mpr (show A.length + a ≠ 0 by omega), show A.length + a - 1 = A.length + (a - 1) by omega, owns_app_r, owns_cellsOf (by omega)]
        simp
    · show (a + 1 == ls.length) = (A.length + a + 1 == (A ++ cellsOf o ls).length || (owns (A ++ cellsOf o ls)).getD (A.length + a + 1) 0 != (o : Int))
      rw [List.length_append, cellsOf_length]
      by_cases he : a + 1 = ls.length
      · rw [beq_iff_eq.mpr he, beq_iff_eq.mpr (show A.length + a + 1 = A.length + ls.length by omega)]; rfl
      · rw [beq_eq_false_iff_ne.mpr he, beq_eq_false_iff_ne.mpr (show A.length + a + 1 ≠ A.length + ls.length by omega), Nat.add_assoc, owns_app_r, owns_cellsOf (by omega)]
        simp
theorem cells_lt {fs : List (List Int)} : ∀ o, o ≤ fs.length → ∀ c ∈ cells (fs.take o), c.1 < o
  | 0, _, c, hc => by simp [cells] at hc
  | o + 1, ho, c, hc => by
    rw [cells_take_succ (by omega)] at hc
    rcases List.mem_append.mp hc with hc | hc
    · exact Nat.lt_succ_of_lt (cells_lt o (by omega) c hc)
    · obtain ⟨a, ha, rfl⟩ := List.mem_map.mp hc
      exact Nat.lt_succ_self o
theorem good_take {fs : List (List Int)} : ∀ o, o ≤ fs.length → Good (cells (fs.take o))
  | 0, _ => by intro p c hc; simp [cells] at hc
  | o + 1, ho => by
    rw [cells_take_succ (by omega)]
    exact good_app (good_take o (by omega)) (cells_lt o (by omega))
theorem good_cells (fs : List (List Int)) : Good (cells fs) := by
  have := good_take (fs := fs) fs.length (Nat.le_refl _)
  rwa [List.take_length] at this
theorem step_eq {W : List Int} {cs : List Cell} (hg : Good cs) (h1 : 0 < W.length) {p : Nat} (hp : p + W.length ≤ cs.length) :
    readStep W cs p = (match cs[p + W.length - 1]? with | some c => stepF W (cs.take (p + W.length - 1)) c | none => []) := by
  have hl : p + W.length - 1 < cs.length := by omega
  have e1 : cs[p + W.length - 1]? = some cs[p + W.length - 1] := List.getElem?_eq_getElem hl
  have e0 : cs[p]? = some cs[p] := List.getElem?_eq_getElem (by omega)
  rw [e1]
  have et : cs.take (p + W.length - 1) ++ [cs[p + W.length - 1]] = cs.take (p + W.length) := by
    rw [← List.take_succ_eq_append_getElem hl, show p + W.length - 1 + 1 = p + W.length by omega]
  have els : lets (cs.take (p + W.length)) = (lets cs).take (p + W.length) := by simp [lets, List.map_take]
  have hsuf : (W <:+ (lets cs).take (p + W.length)) ↔ ((lets cs).drop p).take W.length = W := by
    have e : ((lets cs).drop p).take W.length = ((lets cs).take (p + W.length)).drop p := by rw [List.drop_take, Nat.add_sub_cancel_left]
    rw [e, List.suffix_iff_eq_drop]
    have hln : ((lets cs).take (p + W.length)).length - W.length = p := by rw [List.length_take, lets_length]; omega
    rw [hln]
    exact eq_comm
  show readStep W cs p = stepF W (cs.take (p + W.length - 1)) cs[p + W.length - 1]
  unfold stepF
  rw [et, els]
  have hlen : (cs.take (p + W.length - 1)).length = p + W.length - 1 := by rw [List.length_take]; omega
  rw [hlen, show p + W.length - 1 + 1 - W.length = p by omega, List.getElem?_take_of_lt (by omega), e0]
  unfold readStep
  by_cases hw : ((lets cs).drop p).take W.length = W
  · rw [if_pos hw, if_pos (List.isSuffixOf_iff_suffix.mpr (hsuf.mpr hw))]
    have g0 := (hg _ _ e0).1
    have g1 := (hg _ _ e1).2
    show _ = [((cs[p].1 : Int), (cs[p + W.length - 1].1 : Int), cs[p].2.1 && cs[p + W.length - 1].2.2.1)]
    rw [owns_get e0, owns_get e1, g0, g1, show p + W.length - 1 + 1 = p + W.length by omega]
  · rw [if_neg hw, if_neg (fun q => hw (hsuf.mp (List.isSuffixOf_iff_suffix.mp q)))]
theorem flat_nil {α : Type} (f : Nat → List α) : ∀ n, (∀ j, j < n → f j = []) → (List.range n).flatMap f = []
  | 0, _ => rfl
  | n + 1, h => by
    rw [List.range_succ, List.flatMap_append, flat_nil f n (fun j hj => h j (by omega)), List.flatMap_cons, h n (by omega)]; rfl
theorem flat_shift {α : Type} (f g : Nat → List α) (d : Nat) (h0 : ∀ j, j < d → f j = []) : ∀ n, (∀ p, p < n → f (p + d) = g p) → (List.range (n + d)).flatMap f = (List.range n).flatMap g
  | 0, _ => by rw [Nat.zero_add, flat_nil f d h0]; rfl
  | n + 1, h => by
    rw [show n + 1 + d = n + d + 1 by omega, List.range_succ, List.flatMap_append, flat_shift f g d h0 n (fun p hp => h p (by omega)), List.range_succ, List.flatMap_append, List.flatMap_cons, List.flatMap_cons, h n (by omega)]
    rfl
theorem short_step {W : List Int} {cs : List Cell} {j : Nat} (h : j + 1 < W.length) : (match cs[j]? with | some c => stepF W (cs.take j) c | none => []) = [] := by
  cases e : cs[j]? with
  | none => rfl
  | some c =>
    refine stepF_no fun hs => ?_
    have := hs.length_le
    rw [List.length_append, lets_length, List.length_take, List.length_singleton] at this
    omega
theorem read_finds {W : List Int} {fs : List (List Int)} (h1 : 0 < W.length) : readOf W (cells fs) = findsOf W (cells fs) := by
  have hg := good_cells fs
  generalize cells fs = cs at hg
  unfold readOf findsOf
  by_cases hle : W.length ≤ cs.length
  · have e : cs.length = (cs.length + 1 - W.length) + (W.length - 1) := by omega
    conv => rhs; rw [e]
    refine (flat_shift _ _ _ (fun j hj => short_step (by omega)) _ fun p hp => ?_).symm
    rw [show p + (W.length - 1) = p + W.length - 1 by omega]
    exact (step_eq hg h1 (by omega)).symm
  · rw [show cs.length + 1 - W.length = 0 by omega]
    exact (flat_nil _ cs.length (fun j hj => short_step (by omega))).symm
end Mine
end

section
open PySem PySem.W PyProof.Rows PyProof.V PySem.Calls
set_option maxRecDepth 100000
namespace Mine
/-- the letters of the i-th form, its sign -/
def lettersOf : Nat → List Int
  | 0 => [0] | 1 => [0] | 2 => [0] | 3 => [0, 0] | 4 => [0, 1] | 5 => [0, 1] | 6 => [1] | 7 => [1] | 8 => [1] | 9 => [2]
  | 10 => [2] | 11 => [2, 2] | 12 => [2, 3] | 13 => [2, 2, 3] | 14 => [3] | 15 => [3] | 16 => [3] | 17 => [3] | _ => []
def codeOf : Nat → Nat
  | 0 => 115 | 1 => 83 | 2 => 383 | 3 => 223 | 4 => 64261 | 5 => 64262 | 6 => 116 | 7 => 84 | 8 => 119827 | 9 => 102
  | 10 => 70 | 11 => 64256 | 12 => 64257 | 13 => 64259 | 14 => 105 | 15 => 73 | 16 => 8464 | 17 => 119816 | 18 => 173 | _ => 65039
def formRef (i : Nat) : Value := .ref (80 + 2 * i)
theorem below20 {P : Nat → Prop} (h : P 0 ∧ P 1 ∧ P 2 ∧ P 3 ∧ P 4 ∧ P 5 ∧ P 6 ∧ P 7 ∧ P 8 ∧ P 9 ∧ P 10 ∧ P 11 ∧ P 12 ∧ P 13 ∧ P 14 ∧ P 15 ∧ P 16 ∧ P 17 ∧ P 18 ∧ P 19) : ∀ i, i < 20 → P i := by
  intro i hi
  obtain ⟨h0, h1, h2, h3, h4, h5, h6, h7, h8, h9, h10, h11, h12, h13, h14, h15, h16, h17, h18, h19⟩ := h
  match i, hi with
  | 0, _ => exact h0 | 1, _ => exact h1 | 2, _ => exact h2 | 3, _ => exact h3 | 4, _ => exact h4
  | 5, _ => exact h5 | 6, _ => exact h6 | 7, _ => exact h7 | 8, _ => exact h8 | 9, _ => exact h9
  | 10, _ => exact h10 | 11, _ => exact h11 | 12, _ => exact h12 | 13, _ => exact h13 | 14, _ => exact h14
  | 15, _ => exact h15 | 16, _ => exact h16 | 17, _ => exact h17 | 18, _ => exact h18 | 19, _ => exact h19
  | n + 20, h => exact absurd h (by omega)
theorem form_letters (P : Params) : ∀ i, i < 20 → ∃ vs : List Value, (K P).lookup (79 + 2 * i) = some (tupOf vs.toArray 0) ∧ IntsAre vs (lettersOf i) :=
  below20 ⟨⟨_, rfl, .cons _ _ .nil⟩, ⟨_, rfl, .cons _ _ .nil⟩, ⟨_, rfl, .cons _ _ .nil⟩, ⟨_, rfl, .cons _ _ (.cons _ _ .nil)⟩, ⟨_, rfl, .cons _ _ (.cons _ _ .nil)⟩, ⟨_, rfl, .cons _ _ (.cons _ _ .nil)⟩,
    ⟨_, rfl, .cons _ _ .nil⟩, ⟨_, rfl, .cons _ _ .nil⟩, ⟨_, rfl, .cons _ _ .nil⟩, ⟨_, rfl, .cons _ _ .nil⟩, ⟨_, rfl, .cons _ _ .nil⟩, ⟨_, rfl, .cons _ _ (.cons _ _ .nil)⟩, ⟨_, rfl, .cons _ _ (.cons _ _ .nil)⟩, ⟨_, rfl, .cons _ _ (.cons _ _ (.cons _ _ .nil))⟩,
    ⟨_, rfl, .cons _ _ .nil⟩, ⟨_, rfl, .cons _ _ .nil⟩, ⟨_, rfl, .cons _ _ .nil⟩, ⟨_, rfl, .cons _ _ .nil⟩, ⟨_, rfl, .nil⟩, ⟨_, rfl, .nil⟩⟩
theorem form_tuple (P : Params) : ∀ i, i < 20 → ∃ t, (K P).lookup (80 + 2 * i) = some (tupOf [Value.int (codeOf i) t, .ref (79 + 2 * i)].toArray 0) :=
  below20 ⟨⟨_, rfl⟩, ⟨_, rfl⟩, ⟨_, rfl⟩, ⟨_, rfl⟩, ⟨_, rfl⟩, ⟨_, rfl⟩, ⟨_, rfl⟩, ⟨_, rfl⟩, ⟨_, rfl⟩, ⟨_, rfl⟩, ⟨_, rfl⟩, ⟨_, rfl⟩, ⟨_, rfl⟩, ⟨_, rfl⟩, ⟨_, rfl⟩, ⟨_, rfl⟩, ⟨_, rfl⟩, ⟨_, rfl⟩, ⟨_, rfl⟩, ⟨_, rfl⟩⟩
theorem forms_tuple (P : Params) : (K P).lookup 119 = some (tupOf ((List.range 20).map formRef).toArray 0) := by kernel_rfl
theorem lettersOf_range {i : Nat} {x : Int} (h : x ∈ lettersOf i) : 0 ≤ x ∧ x < 4 := by
  unfold lettersOf at h
  split at h <;> simp at h <;> omega
theorem lettersOf_short (i : Nat) : (lettersOf i).length ≤ 3 := by
  unfold lettersOf
  split <;> simp
end Mine
end

section
open PySem PySem.W PyProof.Rows PyProof.V PySem.Calls
set_option maxRecDepth 100000
namespace Mine
section
variable {α β : Type} {w : World} {A : Around} {g : Heap} {L : Addr} {fz : Led} {m : Mp} {nw : Led} {env : Env}
theorem Wp_nd {t : Sem α} {Q : α → Mp → Led → Prop} (h : (nw.map (·.1)).Nodup → Wp w A g L fz m nw t Q) : Wp w A g L fz m nw t Q :=
  fun s Q' H k => h (by have := H.nd; rw [List.map_append] at this; exact (List.nodup_append.mp this).1) s Q' H k
theorem nd_inj : ∀ {nw : Led}, (nw.map (·.1)).Nodup → ∀ {p q : Addr × Obj}, p ∈ nw → q ∈ nw → p.1 = q.1 → p = q
  | [], _, _, _, h, _, _ => nomatch h
  | x :: r, hn, p, q, hp, hq, e => by
    obtain ⟨h1, h2⟩ := List.nodup_cons.mp hn
    rcases List.mem_cons.mp hp with hp' | hp'
    · rcases List.mem_cons.mp hq with hq' | hq'
      · rw [hp', hq']
      · exact absurd (show x.1 ∈ r.map (·.1) from List.mem_map.mpr ⟨q, hq', by rw [← e, hp']⟩) h1
    · rcases List.mem_cons.mp hq with hq' | hq'
      · exact absurd (show x.1 ∈ r.map (·.1) from List.mem_map.mpr ⟨p, hp', by rw [e, hq']⟩) h1
      · exact nd_inj h2 hp' hq' e
theorem tup_ne {a l : Addr} {its its' : Array Value} {c c' : Nat} (hn : (nw.map (·.1)).Nodup) (ha : (a, tupOf its c) ∈ nw) (hl : (l, listOf its' c') ∈ nw) : a ≠ l := by
  intro e
  have := congrArg (fun p => p.2.cls) (nd_inj hn ha hl e)
  exact absurd this (by intro q; simp at q)
theorem tup_upd {l : Addr} {its its' : Array Value} {c c' : Nat} {o : Obj} {a : Addr} (hn : (nw.map (·.1)).Nodup) (hl : (l, listOf its' c') ∈ nw) (ha : (a, tupOf its c) ∈ nw) : (a, tupOf its c) ∈ updL nw l o :=
  updL_mem_ne ha (tup_ne hn ha hl)

theorem seqIndex_pos {k : Int} {n : Nat} (h0 : 0 ≤ k) (h1 : k < n) : seqIndex? k n = some k.toNat := by
  unfold seqIndex?
  have : ¬ k < 0 := by omega
  simp only [this, if_false]
  simp [h0, h1]
theorem ints_get {vs : List Value} {ns : List Int} (h : IntsAre vs ns) : ∀ {j : Nat}, j < ns.length → ∃ t, vs[j]? = some (.int (ns.getD j 0) t) := by
  induction h with
  | nil => intro j hj; exact absurd hj (Nat.not_lt_zero _)
  | cons n t _ ih =>
    intro j hj
    cases j with
    | zero => exact ⟨t, rfl⟩
    | succ j => exact ih (Nat.lt_of_succ_lt_succ hj)
theorem Wp_itemTI {value slice : PySem.Expr} {l : Addr} {vs : List Value} {ns : List Int} {n : Nat} {k : Int} {u : Tok} {Q : Value → Mp → Led → Prop}
    (hs : subscripted slice false (.ref l) (.int k u) = operate [.ref l, .int k u] (getItem (.ref l) (.int k u)))
    (hl : At g nw l (tupOf vs.toArray n)) (hi : IntsAre vs ns) (h0 : 0 ≤ k) (h1 : k < ns.length) (hf : k < 2 ^ 63) (h : ∀ t, Q (.int (ns.getD k.toNat 0) t) m nw) : Wp w A g L fz m nw (subscriptTail value slice (.ref l) (.int k u)) Q := by
  obtain ⟨t, ht⟩ := ints_get hi (j := k.toNat) (by omega)
  exact Wp_itemT hs hl (by omega) hf (seqIndex_pos h0 (by rw [hi.length]; exact h1)) ht (h t)
theorem Wp_appendL {l : Addr} {vs : List Value} {n : Nat} {x : Value} {Q : Value → Mp → Led → Prop} (hl : (l, listOf vs.toArray n) ∈ nw) (hz : vs.length ≤ sizeLine) (h : Q .none m (updL nw l (listOf (vs ++ [x]).toArray (n + 1)))) :
    Wp w A g L fz m nw (call (.builtin "list.append") [.ref l, x]) Q := by
  refine Wp_append hl (by rw [List.size_toArray]; exact hz) ?_
  rw [List.push_toArray]
  exact h

theorem Wp_mid {st : Stmt} {rest : List Stmt} {Q : Flow → Mp → Led → Prop} (Mid : Mp → Led → Prop) (h : Wp w A g L fz m nw (exec st env) fun f m₁ n₁ => f = .next ∧ Mid m₁ n₁) (k : ∀ m₁ n₁, Mid m₁ n₁ → Wp w A g L fz m₁ n₁ (execs rest env) Q) :
    Wp w A g L fz m nw (execs (st :: rest) env) Q := Wp_step (Wp_mono h fun _ _ _ x => ⟨x.1, k _ _ x.2⟩)
theorem Wp_andB {e₁ e₂ : PySem.Expr} {pos : Pos} {b e : Bool} {Q : Value → Mp → Led → Prop} (h1 : Wp w A g L fz m nw (eval e₁ env) fun v m₁ n₁ => v = .bool b ∧ m₁ = m ∧ n₁ = nw)
    (h2 : b = true → Wp w A g L fz m nw (eval e₂ env) fun v m₁ n₁ => v = .bool e ∧ m₁ = m ∧ n₁ = nw) (h : Q (.bool (b && e)) m nw) : Wp w A g L fz m nw (eval (.BoolOp .And [e₁, e₂] pos) env) Q := by
  refine Wp_and (Wp_mono h1 ?_)
  rintro v m₁ n₁ ⟨rfl, rfl, rfl⟩
  refine Wp_truthy ?_
  cases b with
  | false => exact h
  | true =>
    refine Wp_bone (Wp_mono (h2 rfl) ?_)
    rintro v m₁ n₁ ⟨rfl, rfl, rfl⟩
    exact h
def pairTup (c : Cell) (t : Tok) : Obj := tupOf [Value.int (c.1 : Int) t, .bool c.2.1].toArray 0
def Pairs (n : Led) (vs : List Value) (cs : List Cell) : Prop := vs.length = cs.length ∧ ∀ (j : Nat) (c : Cell), cs[j]? = some c → ∃ a t, vs[j]? = some (Value.ref a) ∧ (a, pairTup c t) ∈ n
def tripTup (x : Int × Int × Bool) (t u : Tok) : Obj := tupOf [Value.int x.1 t, .int x.2.1 u, .bool x.2.2].toArray 0
def Trips (n : Led) (vs : List Value) (xs : List (Int × Int × Bool)) : Prop := vs.length = xs.length ∧ ∀ (j : Nat) (x : Int × Int × Bool), xs[j]? = some x → ∃ a t u, vs[j]? = some (Value.ref a) ∧ (a, tripTup x t u) ∈ n
/-- every tuple of the one ledger is of the other -/
def TupSub (n n' : Led) : Prop := ∀ a its c, (a, tupOf its c) ∈ n → (a, tupOf its c) ∈ n'
theorem TupSub.of {n n' : Led} (h : ∀ p ∈ n, p ∈ n') : TupSub n n' := fun _ _ _ x => h _ x
theorem TupSub.upd {n : Led} {l : Addr} {its : Array Value} {c : Nat} {o : Obj} (hn : (n.map (·.1)).Nodup) (hl : (l, listOf its c) ∈ n) : TupSub n (updL n l o) := fun _ _ _ x => tup_upd hn hl x
theorem Pairs.mono {n n' : Led} {vs : List Value} {cs : List Cell} (h : Pairs n vs cs) (s : TupSub n n') : Pairs n' vs cs := ⟨h.1, fun j c e => let ⟨a, t, x, y⟩ := h.2 j c e; ⟨a, t, x, s _ _ _ y⟩⟩
theorem Trips.mono {n n' : Led} {vs : List Value} {xs : List (Int × Int × Bool)} (h : Trips n vs xs) (s : TupSub n n') : Trips n' vs xs := ⟨h.1, fun j c e => let ⟨a, t, u, x, y⟩ := h.2 j c e; ⟨a, t, u, x, s _ _ _ y⟩⟩
theorem Pairs.snoc {n : Led} {vs : List Value} {cs : List Cell} {c : Cell} {a : Addr} {t : Tok} (h : Pairs n vs cs) (ha : (a, pairTup c t) ∈ n) : Pairs n (vs ++ [Value.ref a]) (cs ++ [c]) := by
  refine ⟨by rw [List.length_append, List.length_append, h.1]; rfl, fun j c' e => ?_⟩
  rcases Nat.lt_trichotomy j cs.length with hj | hj | hj
  · rw [List.getElem?_append_left hj] at e
    obtain ⟨a', t', x, y⟩ := h.2 j c' e
    exact ⟨a', t', by rw [List.getElem?_append_left (by rw [h.1]; exact hj)]; exact x, y⟩
  · subst hj
    rw [List.getElem?_append_right (Nat.le_refl _), Nat.sub_self] at e
    obtain rfl : c = c' := by simpa using e
    exact ⟨a, t, by rw [List.getElem?_append_right (by rw [h.1]; exact Nat.le_refl _), h.1, Nat.sub_self]; rfl, ha⟩
  · rw [List.getElem?_append_right (Nat.le_of_lt hj), List.getElem?_eq_none (by simp; omega)] at e
    cases e
theorem Trips.snoc {n : Led} {vs : List Value} {cs : List (Int × Int × Bool)} {c : Int × Int × Bool} {a : Addr} {t u : Tok} (h : Trips n vs cs) (ha : (a, tripTup c t u) ∈ n) : Trips n (vs ++ [Value.ref a]) (cs ++ [c]) := by
  refine ⟨by rw [List.length_append, List.length_append, h.1]; rfl, fun j c' e => ?_⟩
  rcases Nat.lt_trichotomy j cs.length with hj | hj | hj
  · rw [List.getElem?_append_left hj] at e
    obtain ⟨a', t', u', x, y⟩ := h.2 j c' e
    exact ⟨a', t', u', by rw [List.getElem?_append_left (by rw [h.1]; exact hj)]; exact x, y⟩
  · subst hj
    rw [List.getElem?_append_right (Nat.le_refl _), Nat.sub_self] at e
    obtain rfl : c = c' := by simpa using e
    exact ⟨a, t, u, by rw [List.getElem?_append_right (by rw [h.1]; exact Nat.le_refl _), h.1, Nat.sub_self]; rfl, ha⟩
  · rw [List.getElem?_append_right (Nat.le_of_lt hj), List.getElem?_eq_none (by simp; omega)] at e
    cases e
theorem Trips.nil {n : Led} : Trips n [] [] := ⟨rfl, fun _ _ e => by simp at e⟩
theorem Pairs.nil {n : Led} : Pairs n [] [] := ⟨rfl, fun _ _ e => by simp at e⟩
theorem beq_zero (a : Nat) : ((a : Int) == 0) = (a == 0) := by
  cases a with
  | zero => rfl
  | succ a => exact Eq.trans (beq_eq_false_iff_ne.mpr (by omega)) (beq_eq_false_iff_ne.mpr (by omega)).symm
theorem beq_last (a n : Nat) : ((a : Int) == (n : Int) - 1) = (a + 1 == n) := by
  by_cases h : a + 1 = n
  · rw [beq_iff_eq.mpr h, beq_iff_eq]; omega
  · rw [beq_eq_false_iff_ne.mpr h, beq_eq_false_iff_ne]; omega
theorem At.K {a : Addr} {o : Obj} (G : Gd w g) (h : (K w.params).lookup a = some o) : At g nw a o := .inr (G.inK _ _ h)
end
end Mine
end

section
open PySem PySem.W PyProof.Rows PyProof.V PySem.Calls
set_option maxRecDepth 100000
namespace Mine
section
variable {w : World} {A : Around} {env : Env} {g : Heap} {L : Addr} {fz : Led} {m : Mp} {nw : Led}

-- a captured name
theorem Wp_storeC {x : Str} {v : Value} {v₀ : Option Value} {c : Addr} {o : Obj} {Q : Unit → Mp → Led → Prop} (hk : env.scope.kind = .function) (hl : env.kindOf x = some .cell) (hc : env.cells.lookup x = some c)
    (hm : (c, o) ∈ nw) (hd : o.data = .cell v₀) (h : ∀ o', o'.data = .cell (some v) → Q () m (updL nw c o')) : Wp w A g L fz m nw (storeName env x v) Q := fun s Q' H k => by
  have hg := H.ns (c, o) (List.mem_append_left _ hm)
  refine wpAny_storeName_cell hk hl hc ⟨o, hg.1, hd⟩ fun h' hv hs => ?_
  obtain ⟨o', ho', hd'⟩ := hv
  refine k () m _ h' s.toks (h o' hd') (H.upd ⟨H.fr.ns.sameBut hs (Ne.symm hg.2.1), fun b ob e => (hs.2 b (fun q => ?_)).trans (H.fr.keep b ob e), H.fr.above⟩ fun p hp => ?_)
  · rw [q, hg.2.2] at e; cases e
  · rcases List.mem_append.mp hp with hp | hp
    · obtain ⟨q, hq, rfl⟩ := List.mem_map.mp hp
      by_cases e : q.1 = c
      · rw [if_pos e]; exact ⟨ho', hg.2⟩
      · rw [if_neg e]
        have z := H.ns q (List.mem_append_left _ hq)
        exact ⟨(hs.2 _ e).trans z.1, z.2⟩
    · have z := H.ns p (List.mem_append_right _ hp)
      refine ⟨(hs.2 _ fun e => ?_).trans z.1, z.2⟩
      have hnd := H.nd
      rw [List.map_append, List.nodup_append] at hnd
      exact hnd.2.2 c (List.mem_map.mpr ⟨_, hm, rfl⟩) p.1 (List.mem_map.mpr ⟨_, hp, rfl⟩) e.symm
theorem Wp_nameCell {x : Str} {pos : Pos} {v : Value} {c : Addr} {o : Obj} {Q : Value → Mp → Led → Prop} (hk : env.scope.kind = .function) (hl : env.kindOf x = some .cell) (hc : env.cells.lookup x = some c)
    (hm : (c, o) ∈ nw) (hd : o.data = .cell (some v)) (h : Q v m nw) (hb : (x == ("__debug__" : Str)) = false) : Wp w A g L fz m nw (eval (.Name x pos) env) Q :=
  fun s _ H k => wpAny_Name (wpAny_loadName_cell hk hl hc ⟨o, H.mem hm, hd⟩ (k v m nw s.heap s.toks h H)) hb

-- a name of the comprehension's own frame
theorem Wp_nameIn {x : Str} {pos : Pos} {v : Value} {C : Addr} {oC : Obj} {m₂ : Mp} {Q : Value → Mp → Led → Prop} (hL : env.locals = C) (hk : env.scope.kind = .function) (hl : env.kindOf x = some .local)
    (hC : (C, oC) ∈ fz) (hN : LCg.NsObj oC m₂) (hv : m₂ x = some v) (h : Q v m nw) (hd : (x == ("__debug__" : Str)) = false) : Wp w A g L fz m nw (eval (.Name x pos) env) Q := by
  subst hL
  exact fun s _ H kk => wpAny_Name (wpAny_loadName_local hk hl (hN.ns (H.ns _ (List.mem_append_right _ hC)).1) hv (kk v m nw s.heap s.toks h H)) hd

-- list comprehensions
def EltsOk (w : World) (A : Around) (g : Heap) (L : Addr) (m : Mp) (nw : Led) (env : Env) (elt : PySem.Expr) (x : Str) (scope : Scope) (cl : List (Str × Addr)) (n : Nat) (P F : Nat → Value → Prop) : Prop :=
  ∀ i v fz' C oC m₂, i < n → P i v → LCg.NsObj oC m₂ → m₂ x = some v → (C, oC) ∈ fz' → Wp w A g L fz' m nw (eval elt (compEnvC scope cl C env)) fun y m' n' => m' = m ∧ n' = nw ∧ F i y

theorem rest_of {elt : PySem.Expr} {x : Str} {scope : Scope} {cl : List (Str × Addr)} {s : Shared} {S : List (Addr × Obj) → Prop} {n : Nat} {P F : Nat → Value → Prop} {Fin : List Value → List (Addr × Obj) → Prop}
    (hnd : ((nw ++ fz).map (·.1)).Nodup) (hS : S (nw ++ fz)) (he : EltsOk w A g L m nw env elt x scope cl n P F) (hfin : ∀ ys, ys.length = n → (∀ i y, ys[i]? = some y → F i y) → Fin ys (nw ++ fz)) :
    ∀ (k i : Nat) (ys : List Value), i + k = n → ys.length = i → (∀ j y, ys[j]? = some y → F j y) → LCg.CompRest pw w A g L m env elt x scope cl s S P Fin k i ys (nw ++ fz)
  | 0, i, ys, hik, hl, hF => LCg.CompRest.zero (hfin ys (by omega) hF)
  | k + 1, i, ys, hik, hl, hF => by
    refine LCg.CompRest.succ fun v I oI C oC D m₂ h tk E' hP hNs hx F N off ne => ?_
    have off' := off.mem
    have perm : ((I, oI) :: (C, oC) :: (D, LCg.lst ys) :: (nw ++ fz)).Perm (nw ++ ((I, oI) :: (C, oC) :: (D, LCg.lst ys) :: fz)) := by
      rw [show (I, oI) :: (C, oC) :: (D, LCg.lst ys) :: (nw ++ fz) = [(I, oI), (C, oC), (D, LCg.lst ys)] ++ (nw ++ fz) from rfl, show (I, oI) :: (C, oC) :: (D, LCg.lst ys) :: fz = [(I, oI), (C, oC), (D, LCg.lst ys)] ++ fz from rfl, ← List.append_assoc, ← List.append_assoc]
      exact List.Perm.append_right _ List.perm_append_comm
    have H : Wf g L ((I, oI) :: (C, oC) :: (D, LCg.lst ys) :: fz) h m nw := by
      refine ⟨F, fun p hp => N p (perm.symm.subset hp), ?_⟩
      refine ((perm.map (·.1)).nodup_iff).mp ?_
      refine List.nodup_cons.mpr ⟨fun hm => ?_, List.nodup_cons.mpr ⟨fun hm => ?_, List.nodup_cons.mpr ⟨fun hm => ?_, hnd⟩⟩⟩
      · rcases List.mem_cons.mp hm with e | hm
        · exact ne.1 e
        · rcases List.mem_cons.mp hm with e | hm
          · exact ne.2.1 e
          · obtain ⟨p, hp, e⟩ := List.mem_map.mp hm
            exact (off' p hp).1 e
      · rcases List.mem_cons.mp hm with e | hm
        · exact ne.2.2 e
        · obtain ⟨p, hp, e⟩ := List.mem_map.mp hm
          exact (off' p hp).2.1 e
      · obtain ⟨p, hp, e⟩ := List.mem_map.mp hm
        exact (off' p hp).2.2 e
    refine wpAny_mono (he i v _ C oC m₂ (by omega) hP hNs hx (.tail _ (.head _)) _ (LCg.CompEnd g L m { s with heap := h, toks := tk } I oI C oC D (LCg.lst ys) S (fun y news' => LCg.CompRest pw w A g L m env elt x scope cl s S P Fin k (i + 1) (ys ++ [y]) news')) H ?_) (fun _ _ x => x) fun _ _ x => x.elim
    rintro y m' n' h' tk' ⟨e1, e2, hy⟩ H'
    rw [e1, e2] at H'
    refine ⟨h', tk', _, rfl, H'.fr, fun p hp => H'.ns p (perm.subset hp), off, hS, rest_of hnd hS he hfin k (i + 1) (ys ++ [y]) (by omega) (by rw [List.length_append, hl]; rfl) fun j z hz => ?_⟩
    by_cases hj : j < ys.length
    · rw [List.getElem?_append_left hj] at hz
      exact hF j z hz
    · have hjl : j < (ys ++ [y]).length := (List.getElem?_eq_some_iff.mp hz).1
      rw [List.length_append, List.length_singleton] at hjl
      have : j = ys.length := by omega
      subst this
      rw [List.getElem?_append_right (Nat.le_refl _), Nat.sub_self] at hz
      cases hz
      rw [hl]
      exact hy

theorem fin_wf {h : Heap} {D : Addr} {ys : List Value} (hnd : ((nw ++ fz).map (·.1)).Nodup) (F : Fr g L h m) (N : News g L h ((D, LCg.lst ys) :: (nw ++ fz))) (off : LCg.Off1 D (nw ++ fz)) : Wf g L fz h m ((D, LCg.lst ys) :: nw) ∧ New nw D := by
  have o1 : ∀ {l : List (Addr × Obj)}, LCg.Off1 D l → ∀ p ∈ l, p.1 ≠ D := by
    intro l
    induction l with
    | nil => intro _ p hp; cases hp
    | cons q r ih =>
      intro x p hp
      rcases List.mem_cons.mp hp with rfl | hp
      · exact x.1
      · exact ih x.2 p hp
  have o2 := o1 off
  exact ⟨⟨F, N, List.nodup_cons.mpr ⟨fun hm => by obtain ⟨p, hp, e⟩ := List.mem_map.mp hm; exact o2 p hp e, hnd⟩⟩, New.of o2⟩

structure CompOk (env : Env) (iter : PySem.Expr) (x : Str) (scope : Scope) (cl : List (Str × Addr)) : Prop where
  clos : closureFor scope env = pure cl
  cell : ∀ y ∈ scope.names, y.2 ≠ .cell
  kind : scope.kind = .function
  names : ∀ y ∈ scope.names, y.2 = .local → scope.names.lookup y.1 = some .local
  hx : scope.names.lookup x = some .local
  hs : ∀ v, foldedSetIterable iter env v = pure v

theorem Wp_compL {elt iter : PySem.Expr} {x : Str} {px pos : Pos} {scope : Scope} {cl : List (Str × Addr)} {Q : Value → Mp → Led → Prop} (F : Nat → Value → Prop) (O : CompOk env iter x scope cl) (hh : A.handled = none)
    (h : Wp w A g L fz m nw (eval iter env) fun xv m₁ n₁ => m₁ = m ∧ ∃ ax its c, xv = .ref ax ∧ At g n₁ ax (listOf its c) ∧ its.size ≤ sizeLine ∧ EltsOk w A g L m n₁ env elt x scope cl its.size (fun i v => its[i]? = some v) F ∧
      ∀ D ys, New n₁ D → ys.length = its.size → (∀ i y, ys[i]? = some y → F i y) → Q (.ref D) m ((D, LCg.lst ys) :: n₁)) :
    Wp w A g L fz m nw (eval (.ListComp elt [⟨.Name x px, iter, [], 0⟩] scope pos) env) Q := fun s Q' H k => by
  refine LCg.ListComp_U H.fr O.clos O.cell O.kind O.names O.hx (h s _ H ?_) O.hs
  rintro xv m₁ n₁ h₁ tk₁ ⟨rfl, ax, its, c, rfl, hat, hsz, he, hq⟩ H₁
  have hS : LCg.SrcAt g ax its (n₁ ++ fz) := hat.elim (fun x => .inr ⟨_, List.mem_append_left _ x, rfl, _, rfl⟩) (fun x => .inl ⟨_, x, rfl, _, rfl⟩)
  refine .inl ⟨ax, its, n₁ ++ fz, rfl, hh, H₁.fr, H₁.ns, hS, hsz, fun s₂ ⟨h₂, e⟩ => rest_of H₁.nd hS he (fun ys hl hF => ?_) its.size 0 [] (by omega) rfl (fun _ _ e => by simp at e)⟩
  subst e
  intro D h tk F' N' off
  obtain ⟨H', hn⟩ := fin_wf H₁.nd F' N' off
  exact k _ _ _ h tk (hq D ys hn hl hF) H'
theorem Wp_acompL {elt iter : PySem.Expr} {x y : Str} {px py pos spos : Pos} {scope : Scope} {cl : List (Str × Addr)} {Q : Flow → Mp → Led → Prop} (F : Nat → Value → Prop) (hL : env.locals = L)
    (hsw : swapsWith (.ListComp elt [⟨.Name x px, iter, [], 0⟩] scope pos) (some (.Name y py)) spos.line env = pure true) (O : CompOk env iter x scope cl) (hh : A.handled = none)
    (hy : env.kindOf y = some .local) (hp : (env.scope.kind == .class || (env.scope.kind == .module && env.locals != env.globals)) = false)
    (h : Wp w A g L fz m nw (eval iter env) fun xv m₁ n₁ => m₁ = m ∧ ∃ ax its c, xv = .ref ax ∧ At g n₁ ax (listOf its c) ∧ its.size ≤ sizeLine ∧ EltsOk w A g L m n₁ env elt x scope cl its.size (fun i v => its[i]? = some v) F ∧
      ∀ D ys, New n₁ D → ys.length = its.size → (∀ i y, ys[i]? = some y → F i y) → Q .next (upd m y (.ref D)) ((D, LCg.lst ys) :: n₁)) :
    Wp w A g L fz m nw (exec (.Assign [.Name y py] (.ListComp elt [⟨.Name x px, iter, [], 0⟩] scope pos) spos) env) Q := fun s Q' H k => by
  refine LCg.Assign_ListComp_U H.fr hL hsw O.clos O.cell O.kind O.names O.hx hy hp (h s _ H ?_) O.hs
  rintro xv m₁ n₁ h₁ tk₁ ⟨rfl, ax, its, c, rfl, hat, hsz, he, hq⟩ H₁
  have hS : LCg.SrcAt g ax its (n₁ ++ fz) := hat.elim (fun x => .inr ⟨_, List.mem_append_left _ x, rfl, _, rfl⟩) (fun x => .inl ⟨_, x, rfl, _, rfl⟩)
  refine .inl ⟨ax, its, n₁ ++ fz, rfl, hh, H₁.fr, H₁.ns, hS, hsz, fun s₂ ⟨h₂, e⟩ => rest_of H₁.nd hS he (fun ys hl hF => ?_) its.size 0 [] (by omega) rfl (fun _ _ e => by simp at e)⟩
  subst e
  intro D h tk F' N' off
  obtain ⟨H', hn⟩ := fin_wf H₁.nd F' N' off
  exact k _ _ _ h tk (hq D ys hn hl hF) H'
theorem Wp_acompR {elt iter : PySem.Expr} {x y : Str} {px py pos spos : Pos} {scope : Scope} {cl : List (Str × Addr)} {Q : Flow → Mp → Led → Prop} (F : Nat → Value → Prop) (hL : env.locals = L)
    (hsw : swapsWith (.ListComp elt [⟨.Name x px, iter, [], 0⟩] scope pos) (some (.Name y py)) spos.line env = pure true) (O : CompOk env iter x scope cl) (hh : A.handled = none)
    (hy : env.kindOf y = some .local) (hp : (env.scope.kind == .class || (env.scope.kind == .module && env.locals != env.globals)) = false)
    (h : Wp w A g L fz m nw (eval iter env) fun xv m₁ n₁ => m₁ = m ∧ ∃ r a b t u v n, xv = .ref r ∧ At g n₁ r (rangeObj a b t u v) ∧ Builtin.Range.small a b 1 = true ∧ (b - a).toNat = n ∧ n ≤ sizeLine ∧ EltsOk w A g L m n₁ env elt x scope cl n (fun i v => ∃ t, v = .int (a + (i : Int)) t) F ∧
      ∀ D ys, New n₁ D → ys.length = n → (∀ i y, ys[i]? = some y → F i y) → Q .next (upd m y (.ref D)) ((D, LCg.lst ys) :: n₁)) :
    Wp w A g L fz m nw (exec (.Assign [.Name y py] (.ListComp elt [⟨.Name x px, iter, [], 0⟩] scope pos) spos) env) Q := fun s Q' H k => by
  refine LCg.Assign_ListComp_U H.fr hL hsw O.clos O.cell O.kind O.names O.hx hy hp (h s _ H ?_) O.hs
  rintro xv m₁ n₁ h₁ tk₁ ⟨rfl, r, a, b, t, u, v, n, rfl, hat, hsm, hn, hsz, he, hq⟩ H₁
  refine .inr ⟨r, a, b, t, u, v, n, n₁ ++ fz, rfl, hh, H₁.fr, H₁.ns, hat.get H₁, hsm, by rw [← hn]; exact rangeSize_nat a b, hsz, fun s₂ ⟨h₂, e⟩ => rest_of H₁.nd trivial he (fun ys hl hF => ?_) n 0 [] (by omega) rfl (fun _ _ e => by simp at e)⟩
  subst e
  intro D h tk F' N' off
  obtain ⟨H', hn⟩ := fin_wf H₁.nd F' N' off
  exact k _ _ _ h tk (hq D ys hn hl hF) H'

-- the ground's list
theorem Wp_itemG {value slice : PySem.Expr} {l : Addr} {vs : List Value} {ns : List Int} {k : Int} {u : Tok} {Q : Value → Mp → Led → Prop}
    (hs : subscripted slice false (.ref l) (.int k u) = operate [.ref l, .int k u] (getItem (.ref l) (.int k u)))
    (hl : g.IsList l vs.toArray) (hi : IntsAre vs ns) (h0 : 0 ≤ k) (hf : k < 2 ^ 63) (hx : k.toNat < ns.length) (h : ∀ t, Q (.int (ns.getD k.toNat 0) t) m nw) : Wp w A g L fz m nw (subscriptTail value slice (.ref l) (.int k u)) Q :=
  fun s _ H kk => by
    obtain ⟨o, ho, r⟩ := hl
    have hl' : s.heap.IsList l vs.toArray := ⟨o, H.fr.keep _ _ ho, r⟩
    obtain ⟨t, ht⟩ := ints_get hi hx
    exact tail_any hl'.typeIs slot_list_getitem.lookup (wpAny_getItem_list hl' h0 hf (by simpa using ht) (kk _ m nw s.heap s.toks (h t) H)) hs
theorem Wp_sliceG {value lo hi : PySem.Expr} {p pos : Pos} {Q : Value → Mp → Led → Prop}
    (hs : ∀ x a, subscripted (.Slice (some lo) (some hi) none p) false (.ref x) (.ref a) = operate [.ref a, .ref x] (getItem (.ref x) (.ref a)))
    (ht : ∀ x r, letTemporaryGo value (.ref x) r = pure ())
    (h : Wp w A g L fz m nw (eval value env) fun o m₁ n₁ => ∃ l, o = .ref l ∧ Wp w A g L fz m₁ n₁ (eval lo env) fun a m₂ n₂ => ∃ i ti, a = .int i ti ∧ Wp w A g L fz m₂ n₂ (eval hi env) fun b m₃ n₃ =>
      ∃ j tj its, b = .int j tj ∧ g.IsList l its ∧ its.size ≤ sizeLine ∧ ∀ d, New n₃ d → Q (.ref d) m₃ ((d, listOf (slicePick its (some i) (some j) none) 0) :: n₃)) :
    Wp w A g L fz m nw (eval (.Subscript value (.Slice (some lo) (some hi) none p) pos) env) Q := fun s Q' H k => by
  refine Subscript_ (h s _ H ?_)
  rintro o m₁ n₁ h₁ tk₁ ⟨l, rfl, h₁'⟩ H₁
  refine wpAny_Slice (wpAny_evalPart_some (h₁' _ _ H₁ ?_))
  rintro a m₂ n₂ h₂ tk₂ ⟨i, ti, rfl, h₂'⟩ H₂
  refine wpAny_evalPart_some (h₂' _ _ H₂ ?_)
  rintro b m₃ n₃ h₃ tk₃ ⟨j, tj, its, rfl, ⟨o, ho, r⟩, hz, hq⟩ H₃
  refine wpAny_evalPart_none ?_
  have hd : ∀ p ∈ n₃ ++ fz, p.1 ≠ h₃.objs.size + 1 := fun p hp => Nat.ne_of_lt (Nat.lt_succ_of_lt (H₃.lt p hp))
  exact slice_list (s := { s with heap := h₃, toks := tk₃ }) H₃.fr H₃.ns ⟨o, H₃.fr.keep _ _ ho, r⟩ (.int i ti) (.int j tj) (fun h' F N => k _ _ _ h' _ (hq _ (New.of hd)) (H₃.alloc hd F N)) (hs _ _) (ht _) hz

-- compares of lists
theorem Wp_neG {l b : Addr} {vs us : List Value} {ns ms : List Int} {c : Nat} {Q : Value → Mp → Led → Prop} (hl : g.IsList l vs.toArray) (hi : IntsAre vs ns) (hb : At g nw b (listOf us.toArray c)) (hj : IntsAre us ms) (hu : A.units + 64 < cLine)
    (h : Q (.bool (!decide (ns = ms))) m nw) : Wp w A g L fz m nw (compareOp .NotEq (.ref l) (.ref b)) Q := fun s _ H k => by
  obtain ⟨o, ho, r⟩ := hl
  exact ne_intsK ⟨o, H.fr.keep _ _ ho, r⟩ hi (hb.list H) hj hu (k _ m nw s.heap s.toks h H)
theorem Wp_neL {l b : Addr} {vs us : List Value} {ns ms : List Int} {c c' : Nat} {Q : Value → Mp → Led → Prop} (hl : At g nw l (listOf vs.toArray c')) (hi : IntsAre vs ns) (hb : At g nw b (listOf us.toArray c)) (hj : IntsAre us ms) (hu : A.units + 64 < cLine)
    (h : Q (.bool (!decide (ns = ms))) m nw) : Wp w A g L fz m nw (compareOp .NotEq (.ref l) (.ref b)) Q := fun s _ H k =>
  ne_intsK (hl.list H) hi (hb.list H) hj hu (k _ m nw s.heap s.toks h H)
def tripData (x : Int × Int × Bool) : PyData := .tuple [.int x.1, .int x.2.1, .bool x.2.2]
theorem trips_cons {n : Led} {v : Value} {vs : List Value} {x : Int × Int × Bool} {xs : List (Int × Int × Bool)} (h : Trips n (v :: vs) (x :: xs)) : (∃ a t u, v = .ref a ∧ (a, tripTup x t u) ∈ n) ∧ Trips n vs xs := by
  refine ⟨?_, by have := h.1; simpa using this, fun j x' e => ?_⟩
  · obtain ⟨a, t, u, e, hm⟩ := h.2 0 x rfl
    exact ⟨a, t, u, by simpa using e, hm⟩
  · obtain ⟨a, t, u, e, hm⟩ := h.2 (j + 1) x' (by simpa using e)
    exact ⟨a, t, u, by simpa using e, hm⟩
theorem trips_reads {h : Heap} {n : Led} (hn : ∀ p ∈ n, h.get? p.1 = some p.2) : ∀ {vs : List Value} {xs : List (Int × Int × Bool)}, Trips n vs xs → ∃ as, ReadsAll h vs (xs.map tripData) as
  | [], [], _ => ⟨_, .nil⟩
  | [], _ :: _, h => by have := h.1; simp at this
  | _ :: _, [], h => by have := h.1; simp at this
  | v :: vs, x :: xs, hT => by
    obtain ⟨⟨a, t, u, rfl, hm⟩, hT'⟩ := trips_cons hT
    obtain ⟨as, ih⟩ := trips_reads hn hT'
    exact ⟨_, .cons (reads_tuple_at (hn _ hm) rfl rfl (.cons (.int _ _) (.cons (.int _ _) (.cons (.bool _) .nil)))) ih⟩
theorem trips_lay : ∀ xs : List (Int × Int × Bool), PyData.canLayAll0 (xs.map tripData) = true ∧ PyData.depthAll (xs.map tripData) ≤ 1 ∧ PyData.eqvAll (xs.map tripData) (xs.map tripData) = true
  | [] => ⟨rfl, Nat.zero_le _, rfl⟩
  | x :: xs => by
    obtain ⟨a, b, c⟩ := trips_lay xs
    rw [List.map_cons]
    refine ⟨?_, ?_, ?_⟩
    · rw [PyData.canLayAll0, a]; rfl
    · rw [PyData.depthAll]; exact Nat.max_le.mpr ⟨Nat.le_refl 1, b⟩
    · rw [PyData.eqvAll, c]; simp [tripData, PyData.eqv, PyData.eqvAll]
theorem Wp_eqTrips {l b : Addr} {vs us : List Value} {xs : List (Int × Int × Bool)} {c c' : Nat} {Q : Value → Mp → Led → Prop} (hl : (l, listOf vs.toArray c) ∈ nw) (hi : Trips nw vs xs) (hb : (b, listOf us.toArray c') ∈ nw) (hj : Trips nw us xs) (hu : A.units + 64 < cLine)
    (h : Q (.bool true) m nw) : Wp w A g L fz m nw (compareOp .Eq (.ref l) (.ref b)) Q := fun s _ H k => by
  have hn : ∀ p ∈ nw, s.heap.get? p.1 = some p.2 := fun p hp => H.mem hp
  obtain ⟨as, ra⟩ := trips_reads hn hi
  obtain ⟨bs, rb⟩ := trips_reads hn hj
  obtain ⟨x, y, z⟩ := trips_lay xs
  have hsh : SeqAt.shaped (.list (xs.map tripData)) = true := by
    unfold SeqAt.shaped
    rw [PyData.canLay0, x, Bool.true_and]
    exact decide_eq_true (by rw [PyData.depth]; omega)
  refine eq_dataH (reads_list_at (hn _ hl) rfl rfl (by simpa [PySem.W.listOf] using ra)) (reads_list_at (hn _ hb) rfl rfl (by simpa [PySem.W.listOf] using rb)) hsh hsh hu ?_
  rw [PyData.eqv, z]
  exact k _ m nw s.heap s.toks h H
end
end Mine
end

section
open PySem PySem.W PyProof.Rows PyProof.V PySem.Calls
set_option maxRecDepth 100000
set_option maxHeartbeats 4000000
namespace Mine
local macro_rules | `(tactic| walk_at "look") => `(tactic| first | with_reducible assumption | with_reducible exact upd_eq | (with_reducible refine (upd_ne (by decide +kernel)).trans ?_; walk_at "look") | with_unfolding_all exact rfl)
local macro_rules | `(tactic| walk_at "st1") => `(tactic| with_reducible first
  | refine And.intro rfl ?_
  | refine Wp_rets ?_
  | refine Wp_step ?_
  | refine Wp_nil ?_
  | refine Wp_assign (by kernel_rfl) ?_
  | refine Wp_aug ?_
  | refine Wp_if ?_
  | refine Wp_loadName (by kernel_rfl) (by kernel_rfl) (by kernel_rfl) (by walk_at "look") ?_
  | refine Wp_blt (x := Str.ofString "len") (v := .builtin "len") (by assumption) (by kernel_rfl) (by kernel_rfl) (by decide +kernel) ?_ (by kernel_rfl) (by kernel_rfl) (by kernel_rfl) (by kernel_rfl) (by decide +kernel)
  | refine Wp_blt (x := Str.ofString "range") (v := .type "range") (by assumption) (by kernel_rfl) (by kernel_rfl) (by decide +kernel) ?_ (by kernel_rfl) (by kernel_rfl) (by kernel_rfl) (by kernel_rfl) (by decide +kernel)
  | refine Wp_blt (x := Str.ofString "ord") (v := .builtin "ord") (by assumption) (by kernel_rfl) (by kernel_rfl) (by decide +kernel) ?_ (by kernel_rfl) (by kernel_rfl) (by kernel_rfl) (by kernel_rfl) (by decide +kernel)
  | refine Wp_blt (x := Str.ofString "chr") (v := .builtin "chr") (by assumption) (by kernel_rfl) (by kernel_rfl) (by decide +kernel) ?_ (by kernel_rfl) (by kernel_rfl) (by kernel_rfl) (by kernel_rfl) (by decide +kernel)
  | refine Wp_blt (x := Str.ofString "list") (v := .type "list") (by assumption) (by kernel_rfl) (by kernel_rfl) (by decide +kernel) ?_ (by kernel_rfl) (by kernel_rfl) (by kernel_rfl) (by kernel_rfl) (by decide +kernel)
  | refine Wp_glob (x := Str.ofString "in_table_b1") (v := .ref 32) (by assumption) (by kernel_rfl) ?_ (by kernel_rfl) (by kernel_rfl) (by kernel_rfl) (by decide +kernel)
  | refine Wp_glob (x := Str.ofString "map_table_b3") (v := .ref 78) (by assumption) (by kernel_rfl) ?_ (by kernel_rfl) (by kernel_rfl) (by kernel_rfl) (by decide +kernel)
  | refine Wp_glob (x := Str.ofString "b1_set") (v := .ref 22) (by assumption) (by kernel_rfl) ?_ (by kernel_rfl) (by kernel_rfl) (by kernel_rfl) (by decide +kernel)
  | refine Wp_glob (x := Str.ofString "b3_exceptions") (v := .ref 33) (by assumption) (by kernel_rfl) ?_ (by kernel_rfl) (by kernel_rfl) (by kernel_rfl) (by decide +kernel)
  | refine Wp_glob (x := Str.ofString "_law_FORMS") (v := .ref 119) (by assumption) (by kernel_rfl) ?_ (by kernel_rfl) (by kernel_rfl) (by kernel_rfl) (by decide +kernel)
  | refine Wp_glob (x := Str.ofString "_law_borders") (v := .ref 133) (by assumption) (by kernel_rfl) ?_ (by kernel_rfl) (by kernel_rfl) (by kernel_rfl) (by decide +kernel)
  | refine Wp_glob (x := Str.ofString "_law_read") (v := .ref 126) (by assumption) (by kernel_rfl) ?_ (by kernel_rfl) (by kernel_rfl) (by kernel_rfl) (by decide +kernel)
  | refine Wp_glob (x := Str.ofString "_law_automaton") (v := .ref 140) (by assumption) (by kernel_rfl) ?_ (by kernel_rfl) (by kernel_rfl) (by kernel_rfl) (by decide +kernel)
  | refine Wp_name (by kernel_rfl) (by kernel_rfl) (by kernel_rfl) (by walk_at "look") ?_ (by decide +kernel)
  | refine Wp_store (by kernel_rfl) (by kernel_rfl) (by kernel_rfl) ?_
  | (refine Wp_int ?_; intro _)
  | (refine Wp_str ?_; intro _)
  | refine Wp_none ?_
  | refine Wp_binop ?_
  | refine Wp_tcmp (by kernel_rfl) ?_
  | refine Wp_cmp (by kernel_rfl) ?_
  | refine Wp_truthy ?_
  | (refine Wp_add ?_; intro _)
  | (refine Wp_sub ?_; intro _)
  | (refine Wp_iadd ?_; intro _)
  | refine Wp_ieq ?_
  | refine Wp_ine ?_
  | refine Wp_igt ?_
  | refine Wp_tand_nil ?_
  | refine Wp_tand ?_
  | refine Wp_tnot ?_
  | refine Wp_ifexp ?_
  | refine Wp_idx ?_
  | refine Wp_list ?_
  | refine Wp_tuple ?_
  | refine Wp_asub (by kernel_rfl) ?_
  | refine Wp_spl_nil ?_
  | refine Wp_spl_cons (by kernel_rfl) ?_
  | refine Wp_expr (by kernel_rfl) (by kernel_rfl) ?_
  | refine Wp_meth (by with_unfolding_all rfl) ?_
  | refine Wp_cwM1 (by kernel_rfl) (by kernel_rfl) ?_
  | refine Wp_cwM0 ?_
  | refine Wp_call (by kernel_rfl) ?_
  | refine Wp_cwB (by kernel_rfl) (by kernel_rfl) ?_
  | refine Wp_cwT (by kernel_rfl) (by kernel_rfl) ?_)

def JB (nw : Led) (lw : Addr) (W : List Int) (i : Nat) (m : Mp) (n : Led) : Prop := ∃ (k : Nat) (t : Tok) (lt : Addr) (vs' : List Value) (bs : List Int) (c' : Nat),
  m (Str.ofString "word") = some (.ref lw) ∧ m (Str.ofString "k") = some (.int k t) ∧ m (Str.ofString "table") = some (.ref lt) ∧ (∀ p ∈ nw, p ∈ n) ∧ (lt, listOf vs'.toArray c') ∈ n ∧ New nw lt ∧ IntsAre vs' bs ∧ bs.length = W.length ∧
  (∀ j, j ≤ i → ∃ b : Nat, bs[j]? = some (b : Int) ∧ IsBd W j b) ∧ IsBd W i k

theorem borders_spec {w : World} {A : Around} {env : Env} {g : Heap} {fz : Led} {m : Mp} {nw : Led} {lw : Addr} {vs : List Value} {W : List Int} {c : Nat} {Q : Value → Mp → Led → Prop}
    (C : Cr w A env g) (hroom : A.depth < recursionLimit) (hh : A.handled = none) (hw : (lw, listOf vs.toArray c) ∈ nw) (hi : IntsAre vs W) (h1 : 0 < W.length) (h5 : W.length ≤ 5)
    (ret : ∀ l' vs' bs c' n', (∀ p ∈ nw, p ∈ n') → (l', listOf vs'.toArray c') ∈ n' → New nw l' → IntsAre vs' bs → bs.length = W.length → (∀ j, j < W.length → ∃ k : Nat, bs[j]? = some (k : Int) ∧ IsBd W j k) → Q (.ref l') m n') :
    Wp w A g env.locals fz m nw (call (.ref 133) [.ref lw]) Q := by
  refine Wp_enter (nm := Str.ofString "_law_borders") (params := fnArgs (stm 8)) (body := fnBody (stm 8)) (scope := fnScope (stm 8)) (dV := .none) (kV := .none) (doc := .none) (pm := .str (Str.ofString "law_dw5012_01") 2215) (an := none) (cdv := .ref 132) (ct := .none) (oc := .type "function") (od := none) (osl := #[])
    (binds := [(Str.ofString "word", .ref lw)]) C hroom (by rfl) (by rfl) (by rfl) (fun y hy => by rw [List.mem_singleton.mp hy]; rfl) (by rfl) (by rfl) (by rfl) (by decide) ?_
  intro g' L' C'
  have G := C'.gd
  have hv : vs.length = W.length := hi.length
  have hsz : vs.toArray.size = W.length := by rw [List.size_toArray]; exact hv
  conv => enter [8, 1]; whnf
  repeat walk_at "st1"
  refine Wp_newList ?_ fun d0 hd0 => ?_
  · exact Nat.le_of_ble_eq_true rfl
  repeat walk_at "st1"
  refine Wp_lenL (.inl (.tail _ hw)) (by omega) fun t1 => ?_
  rw [hsz]
  refine Wp_mulL .head (by omega) (by omega) (by simp; omega) fun lt hlt => ?_
  rw [mul_one_list]
  repeat walk_at "st1"
  refine Wp_forR (JB nw lw W) (by kernel_rfl) (by kernel_rfl) (by kernel_rfl) hh (fun _ => by kernel_rfl) ?_
  repeat walk_at "st1"
  refine Wp_lenL (.inl (.tail _ (.tail _ hw))) (by omega) fun t2 => ?_
  rw [hsz]
  repeat walk_at "st1"
  refine Wp_range2 fun r t₁ u₁ v₁ hr => ?_
  refine ⟨r, 1, W.length, t₁, u₁, v₁, rfl, .head, small_one (by omega) (by omega) (by omega) (by omega), ?_, ?_, ?_⟩
  · refine ⟨0, _, lt, _, List.replicate W.length 0, 0, by walk_at "look", by walk_at "look", by walk_at "look", fun p hp => .tail _ (.tail _ (.tail _ hp)), .tail _ (.head _), fun p hp => hlt p (.tail _ hp), ints_replicate _ _, by simp, fun j hj => ⟨0, ?_, ?_⟩, bd_zero W⟩
    · have : j = 0 := by omega
      subst this
      simp [h1]
    · have : j = 0 := by omega
      subst this
      exact bd_zero W
  · rintro i m₂ n₂ fz' ti hin ⟨k, t, lt, vs', bs, c', e1, e2, e3, e4, e5, e6, e7, e8, e9, e10⟩
    have hi2 : 1 + i < W.length := by omega
    have hc0 : Cand W (1 + i) (W.take (1 + i)) (W.getD (1 + i) 0) k := by
      rw [Nat.add_comm 1 i]; exact cand_start e10
    have hidx : ((1 : Int) + (i : Int)).toNat = 1 + i := by omega
    refine Wp_step ?_
    refine Wp_whileX (fun n m' n' => n' = n₂ ∧ (∃ t, m' (Str.ofString "k") = some (.int (n : Nat) t)) ∧ m' (Str.ofString "word") = some (.ref lw) ∧ m' (Str.ofString "table") = some (.ref lt) ∧ m' (Str.ofString "i") = some (.int (1 + (i : Int)) ti) ∧ Cand W (1 + i) (W.take (1 + i)) (W.getD (1 + i) 0) n)
      (fun m' n' => n' = n₂ ∧ ∃ (k : Nat) (t : Tok), m' (Str.ofString "k") = some (.int k t) ∧ m' (Str.ofString "word") = some (.ref lw) ∧ m' (Str.ofString "table") = some (.ref lt) ∧ m' (Str.ofString "i") = some (.int (1 + (i : Int)) ti) ∧ Cand W (1 + i) (W.take (1 + i)) (W.getD (1 + i) 0) k ∧ (k = 0 ∨ W.getD (1 + i) 0 = W.getD k 0)) (n₀ := k)
      ⟨rfl, ⟨t, by walk_at "look"⟩, by walk_at "look", by walk_at "look", by walk_at "look", hc0⟩ ?_ ?_
    · rintro k m₃ n₃ ⟨rfl, ⟨t3, f1⟩, f2, f3, f4, f5⟩
      have hkl : k < W.length := Nat.lt_trans f5.2.1 hi2
      repeat walk_at "st1"
      by_cases hk0 : (k : Int) > 0
      · refine ite_t (decide_eq_true hk0) ?_
        repeat walk_at "st1"
        refine Wp_itemI (by kernel_rfl) (.inl (e4 _ hw)) hi (by omega) (by omega) (by omega) fun _ => ?_
        repeat walk_at "st1"
        refine Wp_itemI (by kernel_rfl) (.inl (e4 _ hw)) hi (by omega) (by omega) (by omega) fun _ => ?_
        repeat walk_at "st1"
        rw [hidx, Int.toNat_natCast]
        by_cases hne : W.getD (1 + i) 0 = W.getD k 0
        · refine ite_f (by rw [hne]; simp) ?_
          refine ite_f rfl ⟨rfl, k, t3, f1, f2, f3, f4, f5, .inr hne⟩
        · refine ite_t (bne_iff_ne.mpr hne) ?_
          repeat walk_at "st1"
          refine ite_t rfl ?_
          repeat walk_at "st1"
          obtain ⟨b, hb, hbd⟩ := e9 (k - 1) (by have := f5.2.1; omega)
          have hk1 : ((k : Int) - 1).toNat = k - 1 := by omega
          have hbl : bs.getD ((k : Int) - 1).toNat 0 = (b : Int) := by rw [hk1, List.getD_eq_getElem?_getD, hb]; rfl
          refine Wp_itemI (by kernel_rfl) (.inl e5) e7 (by omega) (by omega) (by omega) fun _ => ?_
          rw [hbl]
          obtain ⟨c1, c2⟩ := cand_step f5 (Nat.le_of_lt hi2) (by omega) hne hbd
          repeat walk_at "st1"
          exact ⟨b, c2, rfl, ⟨_, by walk_at "look"⟩, by walk_at "look", by walk_at "look", by walk_at "look", c1⟩
      · refine ite_f (decide_eq_false hk0) ?_
        refine ite_f rfl ⟨rfl, k, t3, f1, f2, f3, f4, f5, .inl (by omega)⟩
    · rintro m₃ n₃ ⟨rfl, k, t3, f1, f2, f3, f4, f5, hex⟩
      have hkl : k < W.length := Nat.lt_trans f5.2.1 hi2
      refine ⟨rfl, ?_⟩
      repeat walk_at "st1"
      refine Wp_itemI (by kernel_rfl) (.inl (e4 _ hw)) hi (by omega) (by omega) (by omega) fun _ => ?_
      repeat walk_at "st1"
      refine Wp_itemI (by kernel_rfl) (.inl (e4 _ hw)) hi (by omega) (by omega) (by omega) fun _ => ?_
      repeat walk_at "st1"
      rw [hidx, Int.toNat_natCast]
      have fin : ∀ (k' : Nat) (t : Tok) (m' : Mp), m' (Str.ofString "k") = some (.int k' t) → m' (Str.ofString "word") = some (.ref lw) → m' (Str.ofString "table") = some (.ref lt) → IsBd W (1 + i) k' →
          IntsAre (vs'.set (1 + i) (.int k' t)) (bs.set (1 + i) k') → JB nw lw W (i + 1) m' (updL n₃ lt (listOf (vs'.set (1 + i) (.int k' t)).toArray c')) := by
        intro k' t m' a1 a2 a3 a4 a5
        refine ⟨k', t, lt, _, _, c', a2, a1, a3, fun p hp => updL_mem_ne (e4 p hp) (e6 p hp), updL_mem e5, e6, a5, by simp [e8], fun j hj => ?_, by rw [Nat.add_comm]; exact a4⟩
        by_cases hj' : j = 1 + i
        · subst hj'
          exact ⟨k', by rw [List.getElem?_set_self (by omega)], a4⟩
        · obtain ⟨b, hb, hbd⟩ := e9 j (by omega)
          exact ⟨b, by rw [List.getElem?_set_ne (by omega)]; exact hb, hbd⟩
      by_cases heq : W.getD (1 + i) 0 = W.getD k 0
      · refine ite_t (beq_iff_eq.mpr heq) ?_
        repeat walk_at "st1"
        refine Wp_setL e5 e7 (by omega) (by omega) (by omega) fun hset => ⟨rfl, ?_⟩
        rw [hidx] at hset ⊢
        repeat walk_at "st1"
        exact fin (k + 1) _ _ (by walk_at "look") (by walk_at "look") (by walk_at "look") (bd_hit hi2 f5 heq) hset
      · refine ite_f (beq_eq_false_iff_ne.mpr heq) ?_
        have hk : k = 0 := hex.resolve_right heq
        subst hk
        repeat walk_at "st1"
        refine Wp_setL e5 e7 (by omega) (by omega) (by omega) fun hset => ⟨rfl, ?_⟩
        rw [hidx] at hset ⊢
        repeat walk_at "st1"
        exact fin 0 _ _ (by walk_at "look") (by walk_at "look") (by walk_at "look") (bd_miss hi2 f5 heq) hset
  · rintro m₂ n₂ ⟨k, t, lt, vs', bs, c', e1, e2, e3, e4, e5, e6, e7, e8, e9, e10⟩
    refine ⟨rfl, ?_⟩
    repeat walk_at "st1"
    exact ⟨_, rfl, ret lt vs' bs c' n₂ e4 e5 e6 e7 e8 fun j hj => e9 j (by omega)⟩
end Mine
end

section
open PySem PySem.W PyProof.Rows PyProof.V PySem.Calls
set_option maxRecDepth 100000
set_option maxHeartbeats 8000000
namespace Mine
local macro_rules | `(tactic| walk_at "look") => `(tactic| first | with_reducible assumption | with_reducible exact upd_eq | (with_reducible refine (upd_ne (by decide +kernel)).trans ?_; walk_at "look") | with_unfolding_all exact rfl)
local macro_rules | `(tactic| walk_at "st1") => `(tactic| with_reducible first
  | refine And.intro rfl ?_
  | refine Wp_rets ?_
  | refine Wp_step ?_
  | refine Wp_nil ?_
  | refine Wp_assign (by kernel_rfl) ?_
  | refine Wp_aug ?_
  | refine Wp_if ?_
  | refine Wp_loadName (by kernel_rfl) (by kernel_rfl) (by kernel_rfl) (by walk_at "look") ?_
  | refine Wp_blt (x := Str.ofString "len") (v := .builtin "len") (by assumption) (by kernel_rfl) (by kernel_rfl) (by decide +kernel) ?_ (by kernel_rfl) (by kernel_rfl) (by kernel_rfl) (by kernel_rfl) (by decide +kernel)
  | refine Wp_blt (x := Str.ofString "range") (v := .type "range") (by assumption) (by kernel_rfl) (by kernel_rfl) (by decide +kernel) ?_ (by kernel_rfl) (by kernel_rfl) (by kernel_rfl) (by kernel_rfl) (by decide +kernel)
  | refine Wp_blt (x := Str.ofString "ord") (v := .builtin "ord") (by assumption) (by kernel_rfl) (by kernel_rfl) (by decide +kernel) ?_ (by kernel_rfl) (by kernel_rfl) (by kernel_rfl) (by kernel_rfl) (by decide +kernel)
  | refine Wp_blt (x := Str.ofString "chr") (v := .builtin "chr") (by assumption) (by kernel_rfl) (by kernel_rfl) (by decide +kernel) ?_ (by kernel_rfl) (by kernel_rfl) (by kernel_rfl) (by kernel_rfl) (by decide +kernel)
  | refine Wp_blt (x := Str.ofString "list") (v := .type "list") (by assumption) (by kernel_rfl) (by kernel_rfl) (by decide +kernel) ?_ (by kernel_rfl) (by kernel_rfl) (by kernel_rfl) (by kernel_rfl) (by decide +kernel)
  | refine Wp_glob (x := Str.ofString "in_table_b1") (v := .ref 32) (by assumption) (by kernel_rfl) ?_ (by kernel_rfl) (by kernel_rfl) (by kernel_rfl) (by decide +kernel)
  | refine Wp_glob (x := Str.ofString "map_table_b3") (v := .ref 78) (by assumption) (by kernel_rfl) ?_ (by kernel_rfl) (by kernel_rfl) (by kernel_rfl) (by decide +kernel)
  | refine Wp_glob (x := Str.ofString "b1_set") (v := .ref 22) (by assumption) (by kernel_rfl) ?_ (by kernel_rfl) (by kernel_rfl) (by kernel_rfl) (by decide +kernel)
  | refine Wp_glob (x := Str.ofString "b3_exceptions") (v := .ref 33) (by assumption) (by kernel_rfl) ?_ (by kernel_rfl) (by kernel_rfl) (by kernel_rfl) (by decide +kernel)
  | refine Wp_glob (x := Str.ofString "_law_FORMS") (v := .ref 119) (by assumption) (by kernel_rfl) ?_ (by kernel_rfl) (by kernel_rfl) (by kernel_rfl) (by decide +kernel)
  | refine Wp_glob (x := Str.ofString "_law_borders") (v := .ref 133) (by assumption) (by kernel_rfl) ?_ (by kernel_rfl) (by kernel_rfl) (by kernel_rfl) (by decide +kernel)
  | refine Wp_glob (x := Str.ofString "_law_read") (v := .ref 126) (by assumption) (by kernel_rfl) ?_ (by kernel_rfl) (by kernel_rfl) (by kernel_rfl) (by decide +kernel)
  | refine Wp_glob (x := Str.ofString "_law_automaton") (v := .ref 140) (by assumption) (by kernel_rfl) ?_ (by kernel_rfl) (by kernel_rfl) (by kernel_rfl) (by decide +kernel)
  | refine Wp_name (by kernel_rfl) (by kernel_rfl) (by kernel_rfl) (by walk_at "look") ?_ (by decide +kernel)
  | refine Wp_store (by kernel_rfl) (by kernel_rfl) (by kernel_rfl) ?_
  | (refine Wp_int ?_; intro _)
  | (refine Wp_str ?_; intro _)
  | refine Wp_none ?_
  | refine Wp_binop ?_
  | refine Wp_tcmp (by kernel_rfl) ?_
  | refine Wp_cmp (by kernel_rfl) ?_
  | refine Wp_truthy ?_
  | (refine Wp_add ?_; intro _)
  | (refine Wp_sub ?_; intro _)
  | (refine Wp_iadd ?_; intro _)
  | refine Wp_ieq ?_
  | refine Wp_ine ?_
  | refine Wp_igt ?_
  | refine Wp_tand_nil ?_
  | refine Wp_tand ?_
  | refine Wp_tnot ?_
  | refine Wp_ifexp ?_
  | refine Wp_idx ?_
  | refine Wp_list ?_
  | refine Wp_tuple ?_
  | refine Wp_asub (by kernel_rfl) ?_
  | refine Wp_spl_nil ?_
  | refine Wp_spl_cons (by kernel_rfl) ?_
  | refine Wp_expr (by kernel_rfl) (by kernel_rfl) ?_
  | refine Wp_meth (by with_unfolding_all rfl) ?_
  | refine Wp_cwM1 (by kernel_rfl) (by kernel_rfl) ?_
  | refine Wp_cwM0 ?_
  | refine Wp_call (by kernel_rfl) ?_
  | refine Wp_cwB (by kernel_rfl) (by kernel_rfl) ?_
  | refine Wp_cwT (by kernel_rfl) (by kernel_rfl) ?_)

structure JA (nb : Led) (lf lw lt ld ls : Addr) (W : List Int) (cs : List Cell) (m : Mp) (n : Led) : Prop where
  fm : m (Str.ofString "forms") = some (.ref lf)
  wd : m (Str.ofString "word") = some (.ref lw)
  tb : m (Str.ofString "table") = some (.ref lt)
  fd : m (Str.ofString "finds") = some (.ref ld)
  sts : m (Str.ofString "starts") = some (.ref ls)
  k : ∃ (k : Nat) (t : Tok), m (Str.ofString "k") = some (.int k t) ∧ Best W (W.length - 1) (lets cs) k
  pl : ∃ t, m (Str.ofString "place") = some (.int cs.length t)
  sub : ∀ p ∈ nb, p ∈ n
  dm : ∃ vd cd, (ld, listOf vd.toArray cd) ∈ n ∧ Trips n vd (findsOf W cs)
  sm : ∃ vs cv, (ls, listOf vs.toArray cv) ∈ n ∧ Pairs n vs cs

theorem len_snoc {α : Type} {cs : List α} {c : α} : (((cs ++ [c]).length : Nat) : Int) = (cs.length : Int) + 1 := by simp
/-- the names that a turn of the inner loop does not store, and the place -/
structure MF (lf lw lt ld ls lr : Addr) (i a p : Nat) (m : Mp) : Prop where
  fm : m (Str.ofString "forms") = some (.ref lf)
  wd : m (Str.ofString "word") = some (.ref lw)
  tb : m (Str.ofString "table") = some (.ref lt)
  fd : m (Str.ofString "finds") = some (.ref ld)
  sts : m (Str.ofString "starts") = some (.ref ls)
  le : m (Str.ofString "letters") = some (.ref lr)
  ow : ∃ t, m (Str.ofString "owner") = some (.int i t)
  at_ : ∃ t, m (Str.ofString "at") = some (.int a t)
  pl : ∃ t, m (Str.ofString "place") = some (.int p t)

theorem automaton_spec {w : World} {A : Around} {env : Env} {g : Heap} {fz : Led} {m : Mp} {nw : Led} {lf lw : Addr} {vs : List Value} {fs : List Nat} {W : List Int} {c cf : Nat} {Q : Value → Mp → Led → Prop}
    (C : Cr w A env g) (hroom : A.depth + 1 < recursionLimit) (hh : A.handled = none) (hf20 : ∀ f ∈ fs, f < 20) (hfl : fs.length ≤ 24) (hF : (lf, listOf (fs.map formRef).toArray cf) ∈ nw)
    (hw : (lw, listOf vs.toArray c) ∈ nw) (hi : IntsAre vs W) (h1 : 0 < W.length) (h5 : W.length ≤ 5)
    (ret : ∀ l' vs' c' n', (∀ p ∈ nw, p ∈ n') → (l', listOf vs'.toArray c') ∈ n' → New nw l' → Trips n' vs' (findsOf W (cells (fs.map lettersOf))) → Q (.ref l') m n') :
    Wp w A g env.locals fz m nw (call (.ref 140) [.ref lf, .ref lw]) Q := by
  refine Wp_enter (nm := Str.ofString "_law_automaton") (params := fnArgs (stm 9)) (body := fnBody (stm 9)) (scope := fnScope (stm 9)) (dV := .none) (kV := .none) (doc := .none) (pm := .str (Str.ofString "law_dw5012_01") 2215) (an := none) (cdv := .ref 139) (ct := .none) (oc := .type "function") (od := none) (osl := #[])
    (binds := [(Str.ofString "forms", .ref lf), (Str.ofString "word", .ref lw)]) C (by omega) (by rfl) (by rfl) (by rfl) (fun y hy => by
      rcases List.mem_cons.mp hy with rfl | hy
      · rfl
      · rw [List.mem_singleton.mp hy]; rfl) (by rfl) (by rfl) (by rfl) (by decide) ?_
  intro g' L' C'
  have G := C'.gd
  have hv : vs.length = W.length := hi.length
  have hsz : vs.toArray.size = W.length := by rw [List.size_toArray]; exact hv
  conv => enter [8, 1]; whnf
  repeat walk_at "st1"
  refine Wp_cwF G (by kernel_rfl) (by kernel_rfl) (by kernel_rfl) ?_
  repeat walk_at "st1"
  refine borders_spec (env := envOf (Str.ofString "_law_automaton") (fnScope (stm 9)) L' 140 (Value.ref 139)) C' hroom hh hw hi h1 h5 fun lt vt bs ct nb hnb hlt hnt hti htl htb => ?_
  repeat walk_at "st1"
  refine Wp_newList (by exact Nat.le_of_ble_eq_true rfl) fun ld hld => ?_
  repeat walk_at "st1"
  refine Wp_newList (by exact Nat.le_of_ble_eq_true rfl) fun ls hls => ?_
  repeat walk_at "st1"
  have hld' : New nb ld := hld
  have hls' : New nb ls := fun p hp => hls p (.tail _ hp)
  have hne : ld ≠ ls := hls _ (.head _)
  have fl3 : ∀ l ∈ fs.map lettersOf, l.length ≤ 3 := fun l hl => by
    obtain ⟨f, _, rfl⟩ := List.mem_map.mp hl
    exact lettersOf_short f
  have flen : (fs.map lettersOf).length = fs.length := List.length_map ..
  have hFb : (lf, listOf (fs.map formRef).toArray cf) ∈ nb := hnb _ hF
  have hwb : (lw, listOf vs.toArray c) ∈ nb := hnb _ hw
  have hfsz : (fs.map formRef).toArray.size = fs.length := by simp
  refine Wp_forR (fun i m' n' => JA nb lf lw lt ld ls W (cells ((fs.map lettersOf).take i)) m' n') (by kernel_rfl) (by kernel_rfl) (by kernel_rfl) hh (fun _ => by kernel_rfl) ?_
  repeat walk_at "st1"
  refine Wp_lenL (.inl (.tail _ (.tail _ hFb))) (by omega) fun t2 => ?_
  rw [hfsz]
  repeat walk_at "st1"
  refine Wp_range1 fun r t₁ u₁ v₁ hr => ?_
  refine ⟨r, 0, fs.length, t₁, u₁, v₁, rfl, .head, small_one (by omega) (by omega) (by omega) (by omega), ?_, ?_, ?_⟩
  · refine ⟨by walk_at "look", by walk_at "look", by walk_at "look", by walk_at "look", by walk_at "look", ⟨0, _, by walk_at "look", ?_⟩, ⟨_, by walk_at "look"⟩, fun p hp => .tail _ (.tail _ (.tail _ hp)), ⟨[], 0, .tail _ (.tail _ (.head _)), Trips.nil⟩, ⟨[], 0, .tail _ (.head _), Pairs.nil⟩⟩
    exact ⟨by rw [List.take_zero]; exact List.nil_suffix, Nat.zero_le _, fun k' h1 h2 => by
      have e : lets (cells (List.take 0 (fs.map lettersOf))) = [] := by simp [cells, lets]
      rw [e] at h2
      have := List.length_take (i := k') (l := W)
      rw [List.suffix_nil.mp h2] at this
      simp at this
      omega⟩
  · rintro i m₂ n₂ fz' ti hin J
    have hin' : i < fs.length := by omega
    rw [Int.zero_add]
    obtain ⟨f, hf⟩ : ∃ f, fs[i]? = some f := ⟨_, List.getElem?_eq_getElem hin'⟩
    have hfm : f ∈ fs := List.mem_of_getElem? hf
    obtain ⟨tf, hft⟩ := form_tuple w.params f (hf20 f hfm)
    obtain ⟨vf, hfl', hfi⟩ := form_letters w.params f (hf20 f hfm)
    have hgd : (fs.map lettersOf).getD i [] = lettersOf f := by simp [List.getD_eq_getElem?_getD, hf]
    obtain ⟨j1, j2, j3, j4, j5, j6, j7, j8, j9, j10⟩ := J
    repeat walk_at "st1"
    refine Wp_itemL (by kernel_rfl) (.inl (j8 _ hFb)) (by omega) (by omega) (x := formRef f) (by rw [Int.toNat_natCast]; simp [hf]) ?_
    repeat walk_at "st1"
    refine Wp_itemT (by kernel_rfl) (At.K G hft) (by omega) (by omega) (j := 1) rfl rfl ?_
    repeat walk_at "st1"
    have hvf : vf.toArray.size = (lettersOf f).length := by rw [List.size_toArray]; exact hfi.length
    have hl3 := lettersOf_short f
    refine Wp_forR (fun a m' n' => JA nb lf lw lt ld ls W (pre (fs.map lettersOf) i a) m' n' ∧ m' (Str.ofString "letters") = some (.ref (79 + 2 * f)) ∧ ∃ t, m' (Str.ofString "owner") = some (.int i t)) (by kernel_rfl) (by kernel_rfl) (by kernel_rfl) hh (fun _ => by kernel_rfl) ?_
    repeat walk_at "st1"
    refine Wp_lenT (At.K G hfl') (by omega) fun t3 => ?_
    rw [hvf]
    repeat walk_at "st1"
    refine Wp_range1 fun r2 t₂ u₂ v₂ hr2 => ?_
    refine ⟨r2, 0, (lettersOf f).length, t₂, u₂, v₂, rfl, .head, small_one (by omega) (by omega) (by omega) (by omega), ?_, ?_, ?_⟩
    · obtain ⟨k, tk, jk, jb⟩ := j6
      obtain ⟨tp, jp⟩ := j7
      obtain ⟨vd, cd, jd, jdt⟩ := j9
      obtain ⟨vv, cv, js, jst⟩ := j10
      rw [pre_zero]
      exact ⟨⟨by walk_at "look", by walk_at "look", by walk_at "look", by walk_at "look", by walk_at "look", ⟨k, tk, by walk_at "look", jb⟩, ⟨tp, by walk_at "look"⟩, fun p hp => .tail _ (j8 p hp), ⟨vd, cd, .tail _ jd, jdt.mono (.of fun p hp => .tail _ hp)⟩, ⟨vv, cv, .tail _ js, jst.mono (.of fun p hp => .tail _ hp)⟩⟩, by walk_at "look", ⟨_, by walk_at "look"⟩⟩
    · rintro a m₃ n₃ fz₃ ta han ⟨J3, hle, ⟨tow, how⟩⟩
      rw [Int.zero_add]
      have han' : a < (lettersOf f).length := by omega
      have hps := pre_succ (fs := fs.map lettersOf) (o := i) (a := a) (by rw [hgd]; exact han')
      rw [hgd] at hps
      have hcl : (pre (fs.map lettersOf) i a).length ≤ 72 := by
        have := pre_len fl3 (o := i) (a := a) (by rw [flen]; exact hin') (by rw [hgd]; omega)
        omega
      rw [hps]
      generalize pre (fs.map lettersOf) i a = cs at J3 hcl hps ⊢
      obtain ⟨j1, j2, j3, j4, j5, ⟨k, tk, jk, jb⟩, ⟨tp, jp⟩, j8, ⟨vd, cd, jd, jdt⟩, ⟨vv, cv, js, jst⟩⟩ := J3
      refine Wp_step ?_
      repeat walk_at "st1"
      refine Wp_gmAppend (.inl js) ?_
      repeat walk_at "st1"
      rw [beq_zero]
      refine Wp_newTuple (by exact Nat.le_of_ble_eq_true rfl) fun d hd => ?_
      repeat walk_at "st1"
      refine Wp_nd fun nd => ?_
      refine Wp_appendL (List.mem_cons_of_mem _ js) (by rw [jst.1]; exact Nat.le_trans hcl (Nat.le_of_ble_eq_true rfl)) ⟨rfl, rfl, ?_⟩
      have s4 : TupSub n₃ (updL ((d, tupOf [Value.int (i : Int) tow, Value.bool (a == 0)].toArray 0) :: n₃) ls (listOf (vv ++ [Value.ref d]).toArray (cv + 1))) :=
        fun _ _ _ x => TupSub.upd nd (List.mem_cons_of_mem _ js) _ _ _ (List.mem_cons_of_mem _ x)
      have q1 : ∀ p ∈ nb, p ∈ updL ((d, tupOf [Value.int (i : Int) tow, Value.bool (a == 0)].toArray 0) :: n₃) ls (listOf (vv ++ [Value.ref d]).toArray (cv + 1)) := fun p hp => updL_mem_ne (.tail _ (j8 p hp)) (hls' p hp)
      have q2 : (ld, listOf vd.toArray cd) ∈ updL ((d, tupOf [Value.int (i : Int) tow, Value.bool (a == 0)].toArray 0) :: n₃) ls (listOf (vv ++ [Value.ref d]).toArray (cv + 1)) := updL_mem_ne (.tail _ jd) hne
      have q3 : (ls, listOf (vv ++ [Value.ref d]).toArray (cv + 1)) ∈ updL ((d, tupOf [Value.int (i : Int) tow, Value.bool (a == 0)].toArray 0) :: n₃) ls (listOf (vv ++ [Value.ref d]).toArray (cv + 1)) := updL_mem (.tail _ js)
      have q4 : Pairs (updL ((d, tupOf [Value.int (i : Int) tow, Value.bool (a == 0)].toArray 0) :: n₃) ls (listOf (vv ++ [Value.ref d]).toArray (cv + 1))) (vv ++ [Value.ref d]) (cs ++ [(i, a == 0, a + 1 == (lettersOf f).length, (lettersOf f).getD a 0)]) :=
        (jst.mono s4).snoc (t := tow) (tup_upd nd (.tail _ js) (.head _))
      have q5 := jdt.mono s4
      generalize updL ((d, tupOf [Value.int (i : Int) tow, Value.bool (a == 0)].toArray 0) :: n₃) ls (listOf (vv ++ [Value.ref d]).toArray (cv + 1)) = n₄ at q1 q2 q3 q4 q5 ⊢
      clear s4 nd js jd jst jdt
      have hc0 : Cand W (W.length - 1 + 1) (lets cs) ((lettersOf f).getD a 0) k := cand_start jb
      rw [show W.length - 1 + 1 = W.length by omega] at hc0
      have hMF : MF lf lw lt ld ls (79 + 2 * f) i a cs.length (upd m₃ (Str.ofString "at") (.int (a : Int) ta)) :=
        ⟨by walk_at "look", by walk_at "look", by walk_at "look", by walk_at "look", by walk_at "look", by walk_at "look", ⟨_, by walk_at "look"⟩, ⟨_, by walk_at "look"⟩, ⟨_, by walk_at "look"⟩⟩
      have hk0 : (upd m₃ (Str.ofString "at") (.int (a : Int) ta)) (Str.ofString "k") = some (.int (k : Int) tk) := by walk_at "look"
      generalize upd m₃ (Str.ofString "at") (.int (a : Int) ta) = m₄ at hMF hk0 ⊢
      have hwn : (lw, listOf vs.toArray c) ∈ n₄ := q1 _ hwb
      -- the while
      refine Wp_mid (fun m' n' => n' = n₄ ∧ MF lf lw lt ld ls (79 + 2 * f) i a cs.length m' ∧ ∃ (k : Nat) (t : Tok), m' (Str.ofString "k") = some (.int k t) ∧ Cand W W.length (lets cs) ((lettersOf f).getD a 0) k ∧ (k = 0 ∨ (lettersOf f).getD a 0 = W.getD k 0)) ?_ ?_
      · refine Wp_whileX (fun n m' n' => n' = n₄ ∧ MF lf lw lt ld ls (79 + 2 * f) i a cs.length m' ∧ (∃ t, m' (Str.ofString "k") = some (.int (n : Nat) t)) ∧ Cand W W.length (lets cs) ((lettersOf f).getD a 0) n)
          (fun m' n' => n' = n₄ ∧ MF lf lw lt ld ls (79 + 2 * f) i a cs.length m' ∧ ∃ (k : Nat) (t : Tok), m' (Str.ofString "k") = some (.int k t) ∧ Cand W W.length (lets cs) ((lettersOf f).getD a 0) k ∧ (k = 0 ∨ (lettersOf f).getD a 0 = W.getD k 0)) (n₀ := k)
          ⟨rfl, hMF, ⟨tk, hk0⟩, hc0⟩ ?_ (fun _ _ x => ⟨rfl, x⟩)
        rintro k m' n' ⟨rfl, hMF', ⟨t, hk⟩, hc⟩
        have hMF'' := hMF'
        obtain ⟨a1, a2, a3, a4, a5, a6, ⟨t7, a7⟩, ⟨t8, a8⟩, ⟨t9, a9⟩⟩ := hMF'
        have hkl : k < W.length := hc.2.1
        repeat walk_at "st1"
        by_cases hk1 : (k : Int) > 0
        · refine ite_t (decide_eq_true hk1) ?_
          repeat walk_at "st1"
          refine Wp_itemTI (by kernel_rfl) (At.K G hfl') hfi (by omega) (by omega) (by omega) fun _ => ?_
          repeat walk_at "st1"
          refine Wp_itemI (by kernel_rfl) (.inl hwn) hi (by omega) (by omega) (by omega) fun _ => ?_
          repeat walk_at "st1"
          rw [Int.toNat_natCast, Int.toNat_natCast]
          by_cases heq : (lettersOf f).getD a 0 = W.getD k 0
          · refine ite_f (by rw [heq]; simp) ?_
            exact ite_f rfl ⟨rfl, hMF'', k, t, hk, hc, .inr heq⟩
          · refine ite_t (bne_iff_ne.mpr heq) ?_
            repeat walk_at "st1"
            refine ite_t rfl ?_
            repeat walk_at "st1"
            obtain ⟨b, hb, hbd⟩ := htb (k - 1) (by omega)
            have hk2 : ((k : Int) - 1).toNat = k - 1 := by omega
            have hbl : bs.getD ((k : Int) - 1).toNat 0 = (b : Int) := by rw [hk2, List.getD_eq_getElem?_getD, hb]; rfl
            refine Wp_itemI (by kernel_rfl) (.inl (q1 _ hlt)) hti (by omega) (by omega) (by omega) fun _ => ?_
            rw [hbl]
            obtain ⟨c1, c2⟩ := cand_step hc (Nat.le_refl _) (by omega) heq hbd
            repeat walk_at "st1"
            exact ⟨b, c2, rfl, ⟨by walk_at "look", by walk_at "look", by walk_at "look", by walk_at "look", by walk_at "look", by walk_at "look", ⟨_, by walk_at "look"⟩, ⟨_, by walk_at "look"⟩, ⟨_, by walk_at "look"⟩⟩, ⟨_, by walk_at "look"⟩, c1⟩
        · refine ite_f (decide_eq_false hk1) ?_
          exact ite_f rfl ⟨rfl, hMF'', k, t, hk, hc, .inl (by omega)⟩
      -- the letter fits, or k is nought
      clear hc0 hMF hk0 jb jk
      rintro m' n' ⟨rfl, hMF', k, t, hk, hc, hex⟩
      have hkl : k < W.length := hc.2.1
      refine Wp_mid (fun m' n'' => n'' = n' ∧ MF lf lw lt ld ls (79 + 2 * f) i a cs.length m' ∧ ∃ (k : Nat) (t : Tok), m' (Str.ofString "k") = some (.int k t) ∧ Best W W.length (lets cs ++ [(lettersOf f).getD a 0]) k) ?_ ?_
      · have hMF'' := hMF'
        obtain ⟨a1, a2, a3, a4, a5, a6, ⟨t7, a7⟩, ⟨t8, a8⟩, ⟨t9, a9⟩⟩ := hMF'
        repeat walk_at "st1"
        refine Wp_itemTI (by kernel_rfl) (At.K G hfl') hfi (by omega) (by omega) (by omega) fun _ => ?_
        repeat walk_at "st1"
        refine Wp_itemI (by kernel_rfl) (.inl hwn) hi (by omega) (by omega) (by omega) fun _ => ?_
        repeat walk_at "st1"
        rw [Int.toNat_natCast, Int.toNat_natCast]
        by_cases heq : (lettersOf f).getD a 0 = W.getD k 0
        · refine ite_t (beq_iff_eq.mpr heq) ?_
          repeat walk_at "st1"
          exact ⟨⟨by walk_at "look", by walk_at "look", by walk_at "look", by walk_at "look", by walk_at "look", by walk_at "look", ⟨_, by walk_at "look"⟩, ⟨_, by walk_at "look"⟩, ⟨_, by walk_at "look"⟩⟩, k + 1, _, by walk_at "look", best_hit hc (Nat.le_refl _) heq⟩
        · refine ite_f (beq_eq_false_iff_ne.mpr heq) ?_
          have hk' : k = 0 := hex.resolve_right heq
          subst hk'
          repeat walk_at "st1"
          exact ⟨hMF'', 0, t, hk, best_miss hc (Nat.le_refl _) heq⟩
      clear hk hc hex hMF' hkl
      rintro m' n' ⟨rfl, hMF', k, t, hk, hb⟩
      -- a whole find
      refine Wp_mid (fun m' n'' => MF lf lw lt ld ls (79 + 2 * f) i a cs.length m' ∧ (∃ (k : Nat) (t : Tok), m' (Str.ofString "k") = some (.int k t) ∧ Best W (W.length - 1) (lets cs ++ [(lettersOf f).getD a 0]) k) ∧ (∀ p ∈ nb, p ∈ n'') ∧
        (∃ vd cd, (ld, listOf vd.toArray cd) ∈ n'' ∧ Trips n'' vd (findsOf W (cs ++ [(i, a == 0, a + 1 == (lettersOf f).length, (lettersOf f).getD a 0)]))) ∧ (∃ vs cv, (ls, listOf vs.toArray cv) ∈ n'' ∧ Pairs n'' vs (cs ++ [(i, a == 0, a + 1 == (lettersOf f).length, (lettersOf f).getD a 0)]))) ?_ ?_
      · have hMF'' := hMF'
        obtain ⟨a1, a2, a3, a4, a5, a6, ⟨t7, a7⟩, ⟨t8, a8⟩, ⟨t9, a9⟩⟩ := hMF'
        repeat walk_at "st1"
        refine Wp_lenL (.inl hwn) (by omega) fun _ => ?_
        rw [hsz]
        repeat walk_at "st1"
        by_cases hkn : k = W.length
        · subst hkn
          refine ite_t (beq_iff_eq.mpr rfl) ?_
          obtain ⟨k₂, hb2, hbd2⟩ := htb (W.length - 1) (by omega)
          obtain ⟨hsuf, hb3⟩ := best_found h1 hb hbd2
          have hwl : W.length ≤ cs.length + 1 := by
            have := hsuf.length_le
            rw [List.length_append, lets_length, List.length_singleton] at this
            exact this
          obtain ⟨sc, hsc⟩ : ∃ sc, (cs ++ [((i, a == 0, a + 1 == (lettersOf f).length, (lettersOf f).getD a 0) : Cell)])[cs.length + 1 - W.length]? = some sc :=
            ⟨_, List.getElem?_eq_getElem (by rw [List.length_append, List.length_singleton]; omega)⟩
          obtain ⟨ap, tp2, hap, hapm⟩ := q4.2 _ _ hsc
          refine Wp_step ?_
          refine Wp_unpack hh (by kernel_rfl) (by kernel_rfl) (by kernel_rfl) ?_
          repeat walk_at "st1"
          refine Wp_lenL (.inl hwn) (by omega) fun _ => ?_
          rw [hsz]
          repeat walk_at "st1"
          refine Wp_itemL (by kernel_rfl) (.inl q3) (by omega) (by omega) (x := Value.ref ap) (by rw [show ((cs.length : Int) - (W.length : Int) + 1).toNat = cs.length + 1 - W.length by omega]; exact hap) ?_
          refine ⟨ap, _, 0, rfl, .inl hapm, rfl, ?_⟩
          refine Wp_aio_cons (Wp_asgName ?_)
          repeat walk_at "st1"
          refine Wp_aio_cons (Wp_asgName ?_)
          repeat walk_at "st1"
          refine Wp_aio_nil ⟨rfl, ?_⟩
          refine Wp_step ?_
          repeat walk_at "st1"
          refine Wp_gmAppend (.inl q2) ?_
          repeat walk_at "st1"
          refine Wp_andB (b := sc.2.1) (e := a + 1 == (lettersOf f).length) ?_ (fun _ => ?_) ?_
          · repeat walk_at "st1"
            first | exact ⟨rfl, rfl, rfl⟩ | exact ⟨rfl, rfl⟩ | exact rfl
          · repeat walk_at "st1"
            refine Wp_lenT (At.K G hfl') (by omega) fun _ => ?_
            rw [hvf]
            repeat walk_at "st1"
            rw [beq_last]
            first | exact ⟨rfl, rfl, rfl⟩ | exact ⟨rfl, rfl⟩ | exact rfl
          repeat walk_at "st1"
          refine Wp_newTuple (by exact Nat.le_of_ble_eq_true rfl) fun d2 hd2 => ?_
          repeat walk_at "st1"
          refine Wp_nd fun nd => ?_
          have hfl2 : vd.length ≤ 72 := by rw [q5.1]; exact Nat.le_trans (findsOf_len W cs) hcl
          refine Wp_appendL (List.mem_cons_of_mem _ q2) (Nat.le_trans hfl2 (Nat.le_of_ble_eq_true rfl)) ⟨rfl, rfl, ?_⟩
          have s5 : TupSub n' (updL ((d2, tupOf [Value.int (sc.1 : Int) tp2, Value.int (i : Int) t7, Value.bool (sc.2.1 && (a + 1 == (lettersOf f).length))].toArray 0) :: n') ld (listOf (vd ++ [Value.ref d2]).toArray (cd + 1))) :=
            fun _ _ _ x => TupSub.upd nd (List.mem_cons_of_mem _ q2) _ _ _ (List.mem_cons_of_mem _ x)
          have r1 : ∀ p ∈ nb, p ∈ updL ((d2, tupOf [Value.int (sc.1 : Int) tp2, Value.int (i : Int) t7, Value.bool (sc.2.1 && (a + 1 == (lettersOf f).length))].toArray 0) :: n') ld (listOf (vd ++ [Value.ref d2]).toArray (cd + 1)) := fun p hp => updL_mem_ne (.tail _ (q1 p hp)) (hld' p hp)
          have r2 : (ld, listOf (vd ++ [Value.ref d2]).toArray (cd + 1)) ∈ updL ((d2, tupOf [Value.int (sc.1 : Int) tp2, Value.int (i : Int) t7, Value.bool (sc.2.1 && (a + 1 == (lettersOf f).length))].toArray 0) :: n') ld (listOf (vd ++ [Value.ref d2]).toArray (cd + 1)) := updL_mem (.tail _ q2)
          have r3 : (ls, listOf (vv ++ [Value.ref d]).toArray (cv + 1)) ∈ updL ((d2, tupOf [Value.int (sc.1 : Int) tp2, Value.int (i : Int) t7, Value.bool (sc.2.1 && (a + 1 == (lettersOf f).length))].toArray 0) :: n') ld (listOf (vd ++ [Value.ref d2]).toArray (cd + 1)) := updL_mem_ne (.tail _ q3) hne.symm
          have r4 := q4.mono s5
          have r5 : Trips _ (vd ++ [Value.ref d2]) (findsOf W cs ++ [((sc.1 : Int), (i : Int), sc.2.1 && (a + 1 == (lettersOf f).length))]) := (q5.mono s5).snoc (t := tp2) (u := t7) (tup_upd nd (.tail _ q2) (.head _))
          generalize updL ((d2, tupOf [Value.int (sc.1 : Int) tp2, Value.int (i : Int) t7, Value.bool (sc.2.1 && (a + 1 == (lettersOf f).length))].toArray 0) :: n') ld (listOf (vd ++ [Value.ref d2]).toArray (cd + 1)) = n₅ at r1 r2 r3 r4 r5 ⊢
          have hk2 : ((W.length : Int) - 1).toNat = W.length - 1 := by omega
          have hbl : bs.getD ((W.length : Int) - 1).toNat 0 = (k₂ : Int) := by rw [hk2, List.getD_eq_getElem?_getD, hb2]; rfl
          repeat walk_at "st1"
          refine Wp_itemI (by kernel_rfl) (.inl (r1 _ hlt)) hti (by omega) (by omega) (by omega) fun _ => ?_
          rw [hbl]
          repeat walk_at "st1"
          exact ⟨⟨by walk_at "look", by walk_at "look", by walk_at "look", by walk_at "look", by walk_at "look", by walk_at "look", ⟨_, by walk_at "look"⟩, ⟨_, by walk_at "look"⟩, ⟨_, by walk_at "look"⟩⟩, ⟨k₂, _, by walk_at "look", hb3⟩, r1,
            ⟨_, _, r2, by rw [findsOf_snoc, stepF_yes hsuf hsc]; exact r5⟩, ⟨_, _, r3, r4⟩⟩
        · refine ite_f (beq_eq_false_iff_ne.mpr (by omega)) ?_
          obtain ⟨hns, hb'⟩ := best_not hb (by have := hb.2.1; omega)
          repeat walk_at "st1"
          exact ⟨hMF'', ⟨k, t, hk, hb'⟩, q1, ⟨vd, cd, q2, by rw [findsOf_snoc, stepF_no hns, List.append_nil]; exact q5⟩, ⟨_, _, q3, q4⟩⟩
      · rintro m' n' ⟨⟨a1, a2, a3, a4, a5, a6, ⟨t7, a7⟩, ⟨t8, a8⟩, ⟨t9, a9⟩⟩, ⟨k, t, hk, hb⟩, x1, x2, x3⟩
        repeat walk_at "st1"
        exact ⟨⟨by walk_at "look", by walk_at "look", by walk_at "look", by walk_at "look", by walk_at "look", ⟨k, t, by walk_at "look", by rw [lets_snoc]; exact hb⟩, ⟨_, by rw [len_snoc]; exact upd_eq⟩, x1, x2, x3⟩, by walk_at "look", ⟨_, by walk_at "look"⟩⟩
    · rintro m₃ n₃ ⟨J3, _⟩
      refine ⟨rfl, ?_⟩
      have e : ((lettersOf f).length - (0 : Int)).toNat = ((fs.map lettersOf).getD i []).length := by rw [hgd]; omega
      rw [e, pre_full (by rw [flen]; exact hin')] at J3
      repeat walk_at "st1"
      exact J3
  · rintro m₂ n₂ J
    have e : ((fs.length : Int) - 0).toNat = (fs.map lettersOf).length := by rw [flen]; omega
    rw [e, List.take_length] at J
    refine ⟨rfl, ?_⟩
    obtain ⟨j1, j2, j3, j4, j5, j6, j7, j8, ⟨vd, cd, jd, jdt⟩, j10⟩ := J
    repeat walk_at "st1"
    exact ⟨_, rfl, ret ld vd cd n₂ (fun p hp => j8 p (hnb p hp)) jd (fun p hp => hld' p (hnb p hp)) jdt⟩
end Mine
end

section
open PySem PySem.W PyProof.Rows PyProof.V PySem.Calls
set_option maxRecDepth 100000
set_option maxHeartbeats 8000000
namespace Mine
local macro_rules | `(tactic| walk_at "look") => `(tactic| first | with_reducible assumption | with_reducible exact upd_eq | (with_reducible refine (upd_ne (by decide +kernel)).trans ?_; walk_at "look") | with_unfolding_all exact rfl)
local macro_rules | `(tactic| walk_at "st1") => `(tactic| with_reducible first
  | refine And.intro rfl ?_
  | refine Wp_rets ?_
  | refine Wp_step ?_
  | refine Wp_nil ?_
  | refine Wp_assign (by kernel_rfl) ?_
  | refine Wp_aug ?_
  | refine Wp_if ?_
  | refine Wp_loadName (by kernel_rfl) (by kernel_rfl) (by kernel_rfl) (by walk_at "look") ?_
  | refine Wp_blt (x := Str.ofString "len") (v := .builtin "len") (by assumption) (by kernel_rfl) (by kernel_rfl) (by decide +kernel) ?_ (by kernel_rfl) (by kernel_rfl) (by kernel_rfl) (by kernel_rfl) (by decide +kernel)
  | refine Wp_blt (x := Str.ofString "range") (v := .type "range") (by assumption) (by kernel_rfl) (by kernel_rfl) (by decide +kernel) ?_ (by kernel_rfl) (by kernel_rfl) (by kernel_rfl) (by kernel_rfl) (by decide +kernel)
  | refine Wp_blt (x := Str.ofString "ord") (v := .builtin "ord") (by assumption) (by kernel_rfl) (by kernel_rfl) (by decide +kernel) ?_ (by kernel_rfl) (by kernel_rfl) (by kernel_rfl) (by kernel_rfl) (by decide +kernel)
  | refine Wp_blt (x := Str.ofString "chr") (v := .builtin "chr") (by assumption) (by kernel_rfl) (by kernel_rfl) (by decide +kernel) ?_ (by kernel_rfl) (by kernel_rfl) (by kernel_rfl) (by kernel_rfl) (by decide +kernel)
  | refine Wp_blt (x := Str.ofString "list") (v := .type "list") (by assumption) (by kernel_rfl) (by kernel_rfl) (by decide +kernel) ?_ (by kernel_rfl) (by kernel_rfl) (by kernel_rfl) (by kernel_rfl) (by decide +kernel)
  | refine Wp_glob (x := Str.ofString "in_table_b1") (v := .ref 32) (by assumption) (by kernel_rfl) ?_ (by kernel_rfl) (by kernel_rfl) (by kernel_rfl) (by decide +kernel)
  | refine Wp_glob (x := Str.ofString "map_table_b3") (v := .ref 78) (by assumption) (by kernel_rfl) ?_ (by kernel_rfl) (by kernel_rfl) (by kernel_rfl) (by decide +kernel)
  | refine Wp_glob (x := Str.ofString "b1_set") (v := .ref 22) (by assumption) (by kernel_rfl) ?_ (by kernel_rfl) (by kernel_rfl) (by kernel_rfl) (by decide +kernel)
  | refine Wp_glob (x := Str.ofString "b3_exceptions") (v := .ref 33) (by assumption) (by kernel_rfl) ?_ (by kernel_rfl) (by kernel_rfl) (by kernel_rfl) (by decide +kernel)
  | refine Wp_glob (x := Str.ofString "_law_FORMS") (v := .ref 119) (by assumption) (by kernel_rfl) ?_ (by kernel_rfl) (by kernel_rfl) (by kernel_rfl) (by decide +kernel)
  | refine Wp_glob (x := Str.ofString "_law_borders") (v := .ref 133) (by assumption) (by kernel_rfl) ?_ (by kernel_rfl) (by kernel_rfl) (by kernel_rfl) (by decide +kernel)
  | refine Wp_glob (x := Str.ofString "_law_read") (v := .ref 126) (by assumption) (by kernel_rfl) ?_ (by kernel_rfl) (by kernel_rfl) (by kernel_rfl) (by decide +kernel)
  | refine Wp_glob (x := Str.ofString "_law_automaton") (v := .ref 140) (by assumption) (by kernel_rfl) ?_ (by kernel_rfl) (by kernel_rfl) (by kernel_rfl) (by decide +kernel)
  | refine Wp_name (by kernel_rfl) (by kernel_rfl) (by kernel_rfl) (by walk_at "look") ?_ (by decide +kernel)
  | refine Wp_store (by kernel_rfl) (by kernel_rfl) (by kernel_rfl) ?_
  | (refine Wp_int ?_; intro _)
  | (refine Wp_str ?_; intro _)
  | refine Wp_none ?_
  | refine Wp_binop ?_
  | refine Wp_tcmp (by kernel_rfl) ?_
  | refine Wp_cmp (by kernel_rfl) ?_
  | refine Wp_truthy ?_
  | (refine Wp_add ?_; intro _)
  | (refine Wp_sub ?_; intro _)
  | (refine Wp_iadd ?_; intro _)
  | refine Wp_ieq ?_
  | refine Wp_ine ?_
  | refine Wp_igt ?_
  | refine Wp_tand_nil ?_
  | refine Wp_tand ?_
  | refine Wp_tnot ?_
  | refine Wp_ifexp ?_
  | refine Wp_idx ?_
  | refine Wp_list ?_
  | refine Wp_tuple ?_
  | refine Wp_asub (by kernel_rfl) ?_
  | refine Wp_spl_nil ?_
  | refine Wp_spl_cons (by kernel_rfl) ?_
  | refine Wp_expr (by kernel_rfl) (by kernel_rfl) ?_
  | refine Wp_meth (by with_unfolding_all rfl) ?_
  | refine Wp_cwM1 (by kernel_rfl) (by kernel_rfl) ?_
  | refine Wp_cwM0 ?_
  | refine Wp_call (by kernel_rfl) ?_
  | refine Wp_cwB (by kernel_rfl) (by kernel_rfl) ?_
  | refine Wp_cwT (by kernel_rfl) (by kernel_rfl) ?_)

def elemOk (e : Int × Value) : Bool := match e.2 with
  | .int k _ => e.1 == hashInt k
  | _ => false
theorem elems_of {l : List (Int × Value)} {w : World} (h : l.all elemOk = true) : ElemsOf (intKind pw w) l := fun e he => by
  have := List.all_eq_true.mp h e he
  obtain ⟨a, v⟩ := e
  unfold elemOk at this
  cases v with
  | int k t => exact ⟨⟨k, by simp [intKind, Value.isInt], by simpa [intKind] using this⟩, rfl⟩
  | _ => cases this
theorem set22 (P : Params) : ∃ es ep t, (K P).lookup 22 = some ⟨.type "set", none, .set es ep t, #[]⟩ ∧ es.toList.all elemOk = true ∧ es.size < scanBound ∧ t.fits es.size = true ∧ ∀ i, i < 20 → es.toList.any (fun e => Value.isInt (codeOf i) e.2) = decide (18 ≤ i) :=
  ⟨_, _, _, rfl, by decide +kernel, by decide +kernel, by rfl, below20 ⟨by decide +kernel, by decide +kernel, by decide +kernel, by decide +kernel, by decide +kernel, by decide +kernel, by decide +kernel, by decide +kernel, by decide +kernel, by decide +kernel,
    by decide +kernel, by decide +kernel, by decide +kernel, by decide +kernel, by decide +kernel, by decide +kernel, by decide +kernel, by decide +kernel, by decide +kernel, by decide +kernel⟩⟩
def signOf (i : Nat) : Str := ⟨#[codeOf i]⟩
theorem Wp_inSet {w : World} {A : Around} {g : Heap} {L : Addr} {fz : Led} {m : Mp} {nw : Led} {i : Nat} {t : Tok} {Q : Value → Mp → Led → Prop} (G : Gd w g) (hi : i < 20) (h : Q (.bool (decide (18 ≤ i))) m nw) :
    Wp w A g L fz m nw (compareOp .In (.int (codeOf i : Nat) t) (.ref 22)) Q := fun s Q' H k => by
  obtain ⟨es, ep, tb, e1, e2, e3, e4, e5⟩ := set22 w.params
  refine wpAny_inSet_of (knd := intKind pw w) (k := (codeOf i : Int)) (S := fun k => es.toList.any (fun e => Value.isInt k e.2)) (n := es.size) (by simp [intKind, Value.isInt]) rfl
    ⟨_, es, ep, tb, H.fr.keep _ _ (G.inK _ _ e1), ⟨rfl, rfl, rfl⟩, rfl, elems_of e2, fun k => List.any_eq_true, e3, e4, rfl⟩ ?_
  rw [e5 i hi]
  exact k _ _ _ s.heap _ h H

theorem in_spec {w : World} {A : Around} {env : Env} {g : Heap} {fz : Led} {m : Mp} {nw : Led} {i : Nat} {t : Tok} {Q : Value → Mp → Led → Prop}
    (C : Cr w A env g) (hroom : A.depth < recursionLimit) (hi : i < 20) (ret : ∀ n', (∀ p ∈ nw, p ∈ n') → Q (.bool (decide (18 ≤ i))) m n') :
    Wp w A g env.locals fz m nw (call (.ref 32) [.str (signOf i) t]) Q := by
  refine Wp_enter (nm := Str.ofString "in_table_b1") (params := fnArgs (stm 2)) (body := fnBody (stm 2)) (scope := fnScope (stm 2)) (dV := .none) (kV := .none) (doc := .none) (pm := .str (Str.ofString "cpy313.stringprep") 187) (an := none) (cdv := .ref 31) (ct := .none) (oc := .type "function") (od := none) (osl := #[])
    (binds := [(Str.ofString "code", .str (signOf i) t)]) C hroom (by rfl) (by rfl) (by rfl) (fun y hy => by rw [List.mem_singleton.mp hy]; rfl) (by rfl) (by rfl) (by rfl) (by decide) ?_
  intro g' L' C'
  have G := C'.gd
  conv => enter [8, 1]; whnf
  repeat walk_at "st1"
  refine Wp_ord rfl fun _ => ?_
  repeat walk_at "st1"
  refine Wp_inSet G hi ⟨_, rfl, ret _ fun _ hp => hp⟩

def letterCode : Int → Nat := fun x => if x = 0 then 115 else if x = 1 then 116 else if x = 2 then 102 else 105
def foldStr (i : Nat) : Str := ⟨((lettersOf i).map letterCode).toArray⟩
def D33 : List (PyData × PyData) := b3Pairs.map fun p => (.int p.1, .str p.2)
def kvsFrom : Nat → Nat → List (Int × Str) → List (Int × Value)
  | _, _, [] => []
  | 0, t, (k, v) :: r => (k, .str v (t + 1)) :: kvsFrom 0 (t + 2) r
  | c + 1, t, (k, v) :: r => (k, .str v (t + 1)) :: kvsFrom c (t + 3) r
theorem kvs_pairs {w : World} : ∀ (c : Nat) (ps : List (Int × Str)) (t : Nat), PySem.Pairs (intKind pw w) (entriesFrom c t ps) (kvsFrom c t ps)
  | 0, [], _ => .nil
  | _ + 1, [], _ => .nil
  | 0, (k, v) :: r, t => .cons (by simp [intKind, Value.isInt]) rfl (kvs_pairs 0 r _)
  | c + 1, (k, v) :: r, t => .cons (by simp [intKind, Value.isInt]) rfl (kvs_pairs c r _)
theorem kvs_flat : ∀ (c : Nat) (ps : List (Int × Str)) (t : Nat), PyProof.V.FlatPairs PyData.int (kvsFrom c t ps) (ps.map fun p => (.int p.1, .str p.2))
  | 0, [], _ => .nil
  | _ + 1, [], _ => .nil
  | 0, (k, v) :: r, t => .cons (.str _ _) (kvs_flat 0 r _)
  | c + 1, (k, v) :: r, t => .cons (.str _ _) (kvs_flat c r _)
theorem kvs_keys : ∀ (c : Nat) (ps : List (Int × Str)) (t : Nat), (kvsFrom c t ps).map (·.1) = ps.map (·.1)
  | 0, [], _ => rfl
  | _ + 1, [], _ => rfl
  | 0, (k, v) :: r, t => by show k :: (kvsFrom 0 (t + 2) r).map (·.1) = k :: r.map (·.1); rw [kvs_keys 0 r]
  | c + 1, (k, v) :: r, t => by show k :: (kvsFrom c (t + 3) r).map (·.1) = k :: r.map (·.1); rw [kvs_keys c r]
theorem entries_keys {w : World} : ∀ (c : Nat) (ps : List (Int × Str)) (t : Nat), ps.all (fun p => p.1 == hashInt p.1) = true → ∀ e ∈ entriesFrom c t ps, ∃ k, (intKind pw w).is k e.key = true ∧ e.hash = (intKind pw w).hash k
  | 0, [], _, _, _, h => nomatch h
  | _ + 1, [], _, _, _, h => nomatch h
  | 0, (k, v) :: r, t, hh, e, he => by
    obtain ⟨h1, h2⟩ := Bool.and_eq_true_iff.mp (show ((k == hashInt k) && r.all (fun p => p.1 == hashInt p.1)) = true from hh)
    rcases List.mem_cons.mp he with rfl | he
    · exact ⟨k, by simp [intKind, Value.isInt], by simpa [intKind] using h1⟩
    · exact entries_keys 0 r _ h2 e he
  | c + 1, (k, v) :: r, t, hh, e, he => by
    obtain ⟨h1, h2⟩ := Bool.and_eq_true_iff.mp (show ((k == hashInt k) && r.all (fun p => p.1 == hashInt p.1)) = true from hh)
    rcases List.mem_cons.mp he with rfl | he
    · exact ⟨k, by simp [intKind, Value.isInt], by simpa [intKind] using h1⟩
    · exact entries_keys c r _ h2 e he
def rises : Int → List (Int × Str) → Bool
  | _, [] => true
  | a, (k, _) :: r => decide (a < k) && rises k r
theorem rises_lt : ∀ {ps : List (Int × Str)} {a : Int}, rises a ps = true → ∀ k ∈ ps.map (·.1), a < k
  | [], _, _, _, h => nomatch h
  | (k, v) :: r, a, h, x, hx => by
    obtain ⟨h1, h2⟩ := Bool.and_eq_true_iff.mp (show (decide (a < k) && rises k r) = true from h)
    have h1 := of_decide_eq_true h1
    rcases List.mem_cons.mp hx with rfl | hx
    · exact h1
    · exact Int.lt_trans h1 (rises_lt h2 x hx)
theorem rises_nodup : ∀ {ps : List (Int × Str)} {a : Int}, rises a ps = true → (ps.map (·.1)).Nodup
  | [], _, _ => .nil
  | (k, v) :: r, a, h => by
    obtain ⟨_, h2⟩ := Bool.and_eq_true_iff.mp (show (decide (a < k) && rises k r) = true from h)
    exact List.nodup_cons.mpr ⟨fun hm => Int.lt_irrefl _ (rises_lt h2 _ hm), rises_nodup h2⟩
theorem b3_rises : rises 0 b3Pairs = true := by decide +kernel
theorem b3_hash : b3Pairs.all (fun p => p.1 == hashInt p.1) = true := by decide +kernel
theorem dict33 (P : Params) : ∃ ep, (K P).lookup 33 = some ⟨.type "dict", none, .dict b3Entries.toArray ep, #[]⟩ := ⟨_, rfl⟩
theorem tab33 {w : World} {g h : Heap} (G : Gd w g) (hk : ∀ b o, g.get? b = some o → h.get? b = some o) : IntTab pw w h 33 D33 := by
  obtain ⟨ep, e⟩ := dict33 w.params
  refine ⟨by decide, kvsFrom 646 256 b3Pairs, ⟨_, _, ep, hk _ _ (G.inK _ _ e), ⟨rfl, rfl, rfl⟩, rfl, fun e he => ?_, kvs_pairs 646 b3Pairs 256, ?_⟩, kvs_flat 646 b3Pairs 256⟩
  · exact entries_keys 646 b3Pairs 256 b3_hash e (by simpa [b3Entries] using he)
  · rw [kvs_keys]; exact rises_nodup b3_rises
def inB3 (i : Nat) : Bool := [2, 3, 4, 5, 8, 11, 12, 13, 16, 17].contains i
theorem below18 {P : Nat → Prop} (h : P 0 ∧ P 1 ∧ P 2 ∧ P 3 ∧ P 4 ∧ P 5 ∧ P 6 ∧ P 7 ∧ P 8 ∧ P 9 ∧ P 10 ∧ P 11 ∧ P 12 ∧ P 13 ∧ P 14 ∧ P 15 ∧ P 16 ∧ P 17) : ∀ i, i < 18 → P i := by
  intro i hi
  obtain ⟨h0, h1, h2, h3, h4, h5, h6, h7, h8, h9, h10, h11, h12, h13, h14, h15, h16, h17⟩ := h
  match i, hi with
  | 0, _ => exact h0 | 1, _ => exact h1 | 2, _ => exact h2 | 3, _ => exact h3 | 4, _ => exact h4
  | 5, _ => exact h5 | 6, _ => exact h6 | 7, _ => exact h7 | 8, _ => exact h8 | 9, _ => exact h9
  | 10, _ => exact h10 | 11, _ => exact h11 | 12, _ => exact h12 | 13, _ => exact h13 | 14, _ => exact h14
  | 15, _ => exact h15 | 16, _ => exact h16 | 17, _ => exact h17
  | n + 18, h => exact absurd h (by omega)
theorem look33 : ∀ i, i < 18 → (Spec.lookup (.int (codeOf i)) D33).getD .none = if inB3 i then .str (foldStr i) else .none :=
  below18 ⟨by kernel_rfl, by kernel_rfl, by kernel_rfl, by kernel_rfl, by kernel_rfl, by kernel_rfl, by kernel_rfl, by kernel_rfl, by kernel_rfl, by kernel_rfl, by kernel_rfl, by kernel_rfl, by kernel_rfl, by kernel_rfl, by kernel_rfl, by kernel_rfl, by kernel_rfl, by kernel_rfl⟩
theorem lower18 : ∀ i, i < 18 → inB3 i = false → Txt.lower (signOf i) = foldStr i :=
  below18 ⟨(fun _ => by kernel_rfl), (fun _ => by kernel_rfl), (fun h => nomatch h), (fun h => nomatch h), (fun h => nomatch h), (fun h => nomatch h), (fun _ => by kernel_rfl), (fun _ => by kernel_rfl), (fun h => nomatch h), (fun _ => by kernel_rfl), (fun _ => by kernel_rfl), (fun h => nomatch h), (fun h => nomatch h), (fun h => nomatch h), (fun _ => by kernel_rfl), (fun _ => by kernel_rfl), (fun h => nomatch h), (fun h => nomatch h)⟩

theorem Wp_isNot {a : Value} {w : World} {A : Around} {g : Heap} {L : Addr} {fz : Led} {m : Mp} {nw : Led} {Q : Value → Mp → Led → Prop} (x : Str) (t : Tok) (ha : a = .str x t) (h : Q (.bool true) m nw) : Wp w A g L fz m nw (compareOp .IsNot a .none) Q := by
  subst ha
  exact fun s Q' H k _ _ _ => k _ m nw s.heap s.toks h H
theorem Wp_isNot0 {w : World} {A : Around} {g : Heap} {L : Addr} {fz : Led} {m : Mp} {nw : Led} {Q : Value → Mp → Led → Prop} (h : Q (.bool false) m nw) : Wp w A g L fz m nw (compareOp .IsNot .none .none) Q :=
  fun s Q' H k _ _ _ => k _ m nw s.heap s.toks h H
theorem Wp_gmGet {w : World} {A : Around} {g : Heap} {L : Addr} {fz : Led} {m : Mp} {nw : Led} {pl : Sem Bool} {Q : Value × List Value → Mp → Led → Prop} (G : Gd w g) (h : Q (.builtin "dict.get", [.ref 33]) m nw) : Wp w A g L fz m nw (getMethod (.ref 33) "get" pl) Q :=
  fun s _ H k => getMethod_tab PySem.F.slot_dict_get PySem.F.type_dict_get (tab33 G H.fr.keep) (k _ m nw s.heap s.toks h H)
theorem Wp_get33 {w : World} {A : Around} {g : Heap} {L : Addr} {fz : Led} {m : Mp} {nw : Led} {c : Int} {t : Tok} {Q : Value → Mp → Led → Prop} (G : Gd w g) (h : ∀ v, PyProof.V.Flat v ((Spec.lookup (.int c) D33).getD .none) → Q v m nw) : Wp w A g L fz m nw (call (.builtin "dict.get") [.ref 33, .int c t]) Q :=
  fun s _ H k => call_get1_intTab (tab33 G H.fr.keep) fun v hv => k _ m nw s.heap _ (h v hv) H

theorem map_spec {w : World} {A : Around} {env : Env} {g : Heap} {fz : Led} {m : Mp} {nw : Led} {i : Nat} {t : Tok} {Q : Value → Mp → Led → Prop}
    (C : Cr w A env g) (hroom : A.depth < recursionLimit) (hi : i < 18) (ret : ∀ t n', (∀ p ∈ nw, p ∈ n') → Q (.str (foldStr i) t) m n') :
    Wp w A g env.locals fz m nw (call (.ref 78) [.str (signOf i) t]) Q := by
  refine Wp_enter (nm := Str.ofString "map_table_b3") (params := fnArgs (stm 4)) (body := fnBody (stm 4)) (scope := fnScope (stm 4)) (dV := .none) (kV := .none) (doc := .none) (pm := .str (Str.ofString "cpy313.stringprep") 187) (an := none) (cdv := .ref 77) (ct := .none) (oc := .type "function") (od := none) (osl := #[])
    (binds := [(Str.ofString "code", .str (signOf i) t)]) C hroom (by rfl) (by rfl) (by rfl) (fun y hy => by rw [List.mem_singleton.mp hy]; rfl) (by rfl) (by rfl) (by rfl) (by decide) ?_
  intro g' L' C'
  have G := C'.gd
  conv => enter [8, 1]; whnf
  repeat walk_at "st1"
  refine Wp_gmGet G ?_
  repeat walk_at "st1"
  refine Wp_ord rfl fun _ => ?_
  repeat walk_at "st1"
  refine Wp_get33 G fun v hv => ?_
  have hl := look33 i hi
  rw [show (((signOf i).cps.getD 0 0 : Nat) : Int) = (codeOf i : Int) from rfl, hl] at hv
  by_cases hb : inB3 i = true
  · rw [if_pos hb] at hv
    obtain ⟨tv, rfl⟩ : ∃ tv, v = .str (foldStr i) tv := by
      cases hv {}
      exact ⟨_, rfl⟩
    walk_at "st1"
    walk_at "st1"
    refine Wp_cons (Wp_if ?_)
    repeat walk_at "st1"
    refine Wp_isNot _ _ rfl ?_
    repeat walk_at "st1"
    refine ite_t rfl ?_
    repeat walk_at "st1"
    exact ⟨_, rfl, ret _ _ fun _ hp => hp⟩
  · rw [if_neg hb] at hv
    obtain rfl : v = .none := by
      cases hv {}
      rfl
    walk_at "st1"
    walk_at "st1"
    refine Wp_cons (Wp_if ?_)
    repeat walk_at "st1"
    refine Wp_isNot0 ?_
    repeat walk_at "st1"
    refine ite_f rfl ?_
    refine Wp_nil ?_
    repeat walk_at "st1"
    refine Wp_gmLower ?_
    repeat walk_at "st1"
    refine Wp_lower (by show 1 ≤ 5592405; decide) fun t' => ⟨_, rfl, ?_⟩
    rw [lower18 i hi (by simpa using hb)]
    exact ret _ _ fun _ hp => hp
end Mine
end

section
open PySem PySem.W PyProof.Rows PyProof.V PySem.Calls
set_option maxRecDepth 100000
set_option maxHeartbeats 8000000
namespace Mine
local macro_rules | `(tactic| walk_at "look") => `(tactic| first | with_reducible assumption | with_reducible exact upd_eq | (with_reducible refine (upd_ne (by decide +kernel)).trans ?_; walk_at "look") | with_unfolding_all exact rfl)
local macro_rules | `(tactic| walk_at "st1") => `(tactic| with_reducible first
  | refine And.intro rfl ?_
  | refine Wp_rets ?_
  | refine Wp_step ?_
  | refine Wp_nil ?_
  | refine Wp_assign (by kernel_rfl) ?_
  | refine Wp_aug ?_
  | refine Wp_if ?_
  | refine Wp_loadName (by kernel_rfl) (by kernel_rfl) (by kernel_rfl) (by walk_at "look") ?_
  | refine Wp_blt (x := Str.ofString "len") (v := .builtin "len") (by assumption) (by kernel_rfl) (by kernel_rfl) (by decide +kernel) ?_ (by kernel_rfl) (by kernel_rfl) (by kernel_rfl) (by kernel_rfl) (by decide +kernel)
  | refine Wp_blt (x := Str.ofString "range") (v := .type "range") (by assumption) (by kernel_rfl) (by kernel_rfl) (by decide +kernel) ?_ (by kernel_rfl) (by kernel_rfl) (by kernel_rfl) (by kernel_rfl) (by decide +kernel)
  | refine Wp_blt (x := Str.ofString "ord") (v := .builtin "ord") (by assumption) (by kernel_rfl) (by kernel_rfl) (by decide +kernel) ?_ (by kernel_rfl) (by kernel_rfl) (by kernel_rfl) (by kernel_rfl) (by decide +kernel)
  | refine Wp_blt (x := Str.ofString "chr") (v := .builtin "chr") (by assumption) (by kernel_rfl) (by kernel_rfl) (by decide +kernel) ?_ (by kernel_rfl) (by kernel_rfl) (by kernel_rfl) (by kernel_rfl) (by decide +kernel)
  | refine Wp_blt (x := Str.ofString "list") (v := .type "list") (by assumption) (by kernel_rfl) (by kernel_rfl) (by decide +kernel) ?_ (by kernel_rfl) (by kernel_rfl) (by kernel_rfl) (by kernel_rfl) (by decide +kernel)
  | refine Wp_glob (x := Str.ofString "in_table_b1") (v := .ref 32) (by assumption) (by kernel_rfl) ?_ (by kernel_rfl) (by kernel_rfl) (by kernel_rfl) (by decide +kernel)
  | refine Wp_glob (x := Str.ofString "map_table_b3") (v := .ref 78) (by assumption) (by kernel_rfl) ?_ (by kernel_rfl) (by kernel_rfl) (by kernel_rfl) (by decide +kernel)
  | refine Wp_glob (x := Str.ofString "b1_set") (v := .ref 22) (by assumption) (by kernel_rfl) ?_ (by kernel_rfl) (by kernel_rfl) (by kernel_rfl) (by decide +kernel)
  | refine Wp_glob (x := Str.ofString "b3_exceptions") (v := .ref 33) (by assumption) (by kernel_rfl) ?_ (by kernel_rfl) (by kernel_rfl) (by kernel_rfl) (by decide +kernel)
  | refine Wp_glob (x := Str.ofString "_law_FORMS") (v := .ref 119) (by assumption) (by kernel_rfl) ?_ (by kernel_rfl) (by kernel_rfl) (by kernel_rfl) (by decide +kernel)
  | refine Wp_glob (x := Str.ofString "_law_borders") (v := .ref 133) (by assumption) (by kernel_rfl) ?_ (by kernel_rfl) (by kernel_rfl) (by kernel_rfl) (by decide +kernel)
  | refine Wp_glob (x := Str.ofString "_law_read") (v := .ref 126) (by assumption) (by kernel_rfl) ?_ (by kernel_rfl) (by kernel_rfl) (by kernel_rfl) (by decide +kernel)
  | refine Wp_glob (x := Str.ofString "_law_automaton") (v := .ref 140) (by assumption) (by kernel_rfl) ?_ (by kernel_rfl) (by kernel_rfl) (by kernel_rfl) (by decide +kernel)
  | refine Wp_name (by kernel_rfl) (by kernel_rfl) (by kernel_rfl) (by walk_at "look") ?_ (by decide +kernel)
  | refine Wp_store (by kernel_rfl) (by kernel_rfl) (by kernel_rfl) ?_
  | (refine Wp_int ?_; intro _)
  | (refine Wp_str ?_; intro _)
  | refine Wp_none ?_
  | refine Wp_binop ?_
  | refine Wp_tcmp (by kernel_rfl) ?_
  | refine Wp_cmp (by kernel_rfl) ?_
  | refine Wp_truthy ?_
  | (refine Wp_add ?_; intro _)
  | (refine Wp_sub ?_; intro _)
  | (refine Wp_iadd ?_; intro _)
  | refine Wp_ieq ?_
  | refine Wp_ine ?_
  | refine Wp_igt ?_
  | refine Wp_tand_nil ?_
  | refine Wp_tand ?_
  | refine Wp_tnot ?_
  | refine Wp_ifexp ?_
  | refine Wp_idx ?_
  | refine Wp_list ?_
  | refine Wp_tuple ?_
  | refine Wp_asub (by kernel_rfl) ?_
  | refine Wp_spl_nil ?_
  | refine Wp_spl_cons (by kernel_rfl) ?_
  | refine Wp_expr (by kernel_rfl) (by kernel_rfl) ?_
  | refine Wp_meth (by with_unfolding_all rfl) ?_
  | refine Wp_cwM1 (by kernel_rfl) (by kernel_rfl) ?_
  | refine Wp_cwM0 ?_
  | refine Wp_call (by kernel_rfl) ?_
  | refine Wp_cwB (by kernel_rfl) (by kernel_rfl) ?_
  | refine Wp_cwT (by kernel_rfl) (by kernel_rfl) ?_)

section
variable {w : World} {A : Around} {env : Env} {g : Heap} {L : Addr} {fz : Led} {m : Mp} {nw : Led}
theorem Wp_itemS {value slice : PySem.Expr} {x : Str} {tx : Tok} {k : Int} {u : Tok} {c : Nat} {Q : Value → Mp → Led → Prop}
    (hs : ∀ t, subscripted slice false (.str x t) (.int k u) = operate [.str x t, .int k u] (getItem (.str x t) (.int k u))) (ht : ∀ t r, letTemporaryGo value (.str x t) r = pure ())
    (h0 : 0 ≤ k) (hf : k < 2 ^ 63) (hx : x.cps[k.toNat]? = some c) (h : ∀ t, Q (.str ⟨#[c]⟩ t) m nw) : Wp w A g L fz m nw (subscriptTail value slice (.str x tx) (.int k u)) Q :=
  fun s _ H kk => by
    have hlt : k.toNat < x.length := (Array.getElem?_eq_some_iff.mp hx).1
    have e : Txt.item x k = ⟨#[c]⟩ := by
      rw [beq_iff_eq.mp (item_closes (x := x) (i := k) ⟨h0, by omega⟩)]
      simp [hx]
    refine item_str (by simp [fitsSsize]; omega) (by omega) (by omega) (fun _ => ?_) (hs _) (ht _)
    rw [e]
    exact kk _ m nw s.heap _ (h _) H
theorem Wp_orB {e₁ e₂ : PySem.Expr} {pos : Pos} {b e : Bool} {Q : Value → Mp → Led → Prop} (h1 : Wp w A g L fz m nw (eval e₁ env) fun v m₁ n₁ => v = .bool b ∧ m₁ = m ∧ n₁ = nw)
    (h2 : b = false → Wp w A g L fz m nw (eval e₂ env) fun v m₁ n₁ => v = .bool e ∧ m₁ = m ∧ n₁ = nw) (h : Q (.bool (b || e)) m nw) : Wp w A g L fz m nw (eval (.BoolOp .Or [e₁, e₂] pos) env) Q := by
  refine Wp_or (Wp_mono h1 ?_)
  rintro v m₁ n₁ ⟨rfl, rfl, rfl⟩
  refine Wp_truthy ?_
  cases b with
  | true => exact h
  | false =>
    refine Wp_bone (Wp_mono (h2 rfl) ?_)
    rintro v m₁ n₁ ⟨rfl, rfl, rfl⟩
    exact h
end
def textOf (fs : List Nat) : Str := ⟨(fs.map codeOf).toArray⟩
def spellOf (W : List Int) : Str := ⟨(W.map letterCode).toArray⟩
theorem spell_len (W : List Int) : (spellOf W).length = W.length := by simp [spellOf, Str.length]
theorem text_len (fs : List Nat) : (textOf fs).length = fs.length := by simp [textOf, Str.length]
theorem spell_app (a b : List Int) : spellOf a ++ spellOf b = spellOf (a ++ b) := by
  show Str.append (spellOf a) (spellOf b) = _
  simp [Str.append, spellOf]
theorem lets_app (a b : List Cell) : lets (a ++ b) = lets a ++ lets b := by simp [lets]
theorem owns_app (a b : List Cell) : owns (a ++ b) = owns a ++ owns b := by simp [owns]
theorem lets_cellsOf (o : Nat) (ls : List Int) : lets (cellsOf o ls) = ls := by
  apply List.ext_getElem?
  intro i
  rw [lets, cellsOf, List.map_map, List.getElem?_map]
  by_cases h : i < ls.length
  · rw [List.getElem?_range h, List.getElem?_eq_getElem h]
    simp [List.getElem?_eq_getElem h]
  · rw [List.getElem?_eq_none (by simp; omega), List.getElem?_eq_none (by omega)]
    rfl
theorem owns_cellsOf_rep (o : Nat) (ls : List Int) : owns (cellsOf o ls) = List.replicate ls.length (o : Int) := by
  rw [owns, cellsOf, List.map_map]
  exact List.eq_replicate_iff.mpr ⟨by simp, fun x hx => by obtain ⟨a, _, rfl⟩ := List.mem_map.mp hx; rfl⟩
theorem ints_rep (k : Int) (t : Tok) : ∀ n : Nat, IntsAre (List.replicate n (.int k t)) (List.replicate n k)
  | 0 => .nil
  | n + 1 => .cons k t (ints_rep k t n)
theorem letterCode_inj {x y : Int} (hx : 0 ≤ x ∧ x < 4) (hy : 0 ≤ y ∧ y < 4) (h : letterCode x = letterCode y) : x = y := by
  have ex : x = 0 ∨ x = 1 ∨ x = 2 ∨ x = 3 := by omega
  have ey : y = 0 ∨ y = 1 ∨ y = 2 ∨ y = 3 := by omega
  rcases ex with rfl | rfl | rfl | rfl <;> rcases ey with rfl | rfl | rfl | rfl <;> first | rfl | (exact absurd h (by decide))
theorem spell_inj : ∀ {a b : List Int}, (∀ x ∈ a, 0 ≤ x ∧ x < 4) → (∀ x ∈ b, 0 ≤ x ∧ x < 4) → a.map letterCode = b.map letterCode → a = b
  | [], [], _, _, _ => rfl
  | [], _ :: _, _, _, h => by cases h
  | _ :: _, [], _, _, h => by cases h
  | x :: a, y :: b, ha, hb, h => by
    rw [List.map_cons, List.map_cons] at h
    injection h with h1 h2
    rw [letterCode_inj (ha _ (.head _)) (hb _ (.head _)) h1, spell_inj (fun z hz => ha z (.tail _ hz)) (fun z hz => hb z (.tail _ hz)) h2]
theorem slice_spell {l : List Int} {i j : Nat} (h : i ≤ j) (hj : j ≤ l.length) : Txt.slice (spellOf l) (some (i : Int)) (some (j : Int)) = spellOf ((l.drop i).take (j - i)) := by
  rw [beq_iff_eq.mp (slice_closes (x := spellOf l) (i := i) (j := j) ⟨by omega, by omega, by simp [spellOf]; omega⟩)]
  have e : ((j : Int) - (i : Int)).toNat = j - i := by omega
  rw [e, Int.toNat_natCast]
  simp [spellOf]
theorem spell_beq {l W : List Int} (hl : ∀ x ∈ l, 0 ≤ x ∧ x < 4) (hW : ∀ x ∈ W, 0 ≤ x ∧ x < 4) : (spellOf l == spellOf W) = decide (l = W) := by
  by_cases h : l = W
  · subst h
    simp
  · rw [decide_eq_false h]
    apply beq_eq_false_iff_ne.mpr
    intro e
    refine h (spell_inj hl hW ?_)
    have := congrArg (fun s : Str => s.cps.toList) e
    simpa [spellOf] using this
theorem fold_spell (i : Nat) : foldStr i = spellOf (lettersOf i) := rfl
def lf (fs : List Nat) : List (List Int) := fs.map lettersOf
theorem lets_small {fs : List Nat} : ∀ k, k ≤ fs.length → ∀ x ∈ lets (cells ((lf fs).take k)), 0 ≤ x ∧ x < 4
  | 0, _, x, hx => by simp [cells, lets] at hx
  | k + 1, hk, x, hx => by
    have hk' : k < (lf fs).length := by rw [lf, List.length_map]; omega
    rw [cells_take_succ hk', lets_app, lets_cellsOf] at hx
    rcases List.mem_append.mp hx with hx | hx
    · exact lets_small k (by omega) x hx
    · have e : (lf fs).getD k [] = lettersOf (fs.getD k 0) := by
        rw [lf, List.getD_eq_getElem?_getD, List.getD_eq_getElem?_getD, List.getElem?_map, List.getElem?_eq_getElem (by omega)]; rfl
      rw [e] at hx
      exact lettersOf_range hx
end Mine
end

section
open PySem PySem.W PyProof.Rows PyProof.V PySem.Calls
set_option maxRecDepth 100000
set_option maxHeartbeats 8000000
namespace Mine
local macro_rules | `(tactic| walk_at "look") => `(tactic| first | with_reducible assumption | with_reducible exact upd_eq | (with_reducible refine (upd_ne (by decide +kernel)).trans ?_; walk_at "look") | with_unfolding_all exact rfl)
local macro_rules | `(tactic| walk_at "st1") => `(tactic| with_reducible first
  | refine And.intro rfl ?_
  | refine Wp_rets ?_
  | refine Wp_step ?_
  | refine Wp_nil ?_
  | refine Wp_assign (by kernel_rfl) ?_
  | refine Wp_aug ?_
  | refine Wp_if ?_
  | refine Wp_loadName (by kernel_rfl) (by kernel_rfl) (by kernel_rfl) (by walk_at "look") ?_
  | refine Wp_blt (x := Str.ofString "len") (v := .builtin "len") (by assumption) (by kernel_rfl) (by kernel_rfl) (by decide +kernel) ?_ (by kernel_rfl) (by kernel_rfl) (by kernel_rfl) (by kernel_rfl) (by decide +kernel)
  | refine Wp_blt (x := Str.ofString "range") (v := .type "range") (by assumption) (by kernel_rfl) (by kernel_rfl) (by decide +kernel) ?_ (by kernel_rfl) (by kernel_rfl) (by kernel_rfl) (by kernel_rfl) (by decide +kernel)
  | refine Wp_blt (x := Str.ofString "ord") (v := .builtin "ord") (by assumption) (by kernel_rfl) (by kernel_rfl) (by decide +kernel) ?_ (by kernel_rfl) (by kernel_rfl) (by kernel_rfl) (by kernel_rfl) (by decide +kernel)
  | refine Wp_blt (x := Str.ofString "chr") (v := .builtin "chr") (by assumption) (by kernel_rfl) (by kernel_rfl) (by decide +kernel) ?_ (by kernel_rfl) (by kernel_rfl) (by kernel_rfl) (by kernel_rfl) (by decide +kernel)
  | refine Wp_blt (x := Str.ofString "list") (v := .type "list") (by assumption) (by kernel_rfl) (by kernel_rfl) (by decide +kernel) ?_ (by kernel_rfl) (by kernel_rfl) (by kernel_rfl) (by kernel_rfl) (by decide +kernel)
  | refine Wp_glob (x := Str.ofString "in_table_b1") (v := .ref 32) (by assumption) (by kernel_rfl) ?_ (by kernel_rfl) (by kernel_rfl) (by kernel_rfl) (by decide +kernel)
  | refine Wp_glob (x := Str.ofString "map_table_b3") (v := .ref 78) (by assumption) (by kernel_rfl) ?_ (by kernel_rfl) (by kernel_rfl) (by kernel_rfl) (by decide +kernel)
  | refine Wp_glob (x := Str.ofString "b1_set") (v := .ref 22) (by assumption) (by kernel_rfl) ?_ (by kernel_rfl) (by kernel_rfl) (by kernel_rfl) (by decide +kernel)
  | refine Wp_glob (x := Str.ofString "b3_exceptions") (v := .ref 33) (by assumption) (by kernel_rfl) ?_ (by kernel_rfl) (by kernel_rfl) (by kernel_rfl) (by decide +kernel)
  | refine Wp_glob (x := Str.ofString "_law_FORMS") (v := .ref 119) (by assumption) (by kernel_rfl) ?_ (by kernel_rfl) (by kernel_rfl) (by kernel_rfl) (by decide +kernel)
  | refine Wp_glob (x := Str.ofString "_law_borders") (v := .ref 133) (by assumption) (by kernel_rfl) ?_ (by kernel_rfl) (by kernel_rfl) (by kernel_rfl) (by decide +kernel)
  | refine Wp_glob (x := Str.ofString "_law_read") (v := .ref 126) (by assumption) (by kernel_rfl) ?_ (by kernel_rfl) (by kernel_rfl) (by kernel_rfl) (by decide +kernel)
  | refine Wp_glob (x := Str.ofString "_law_automaton") (v := .ref 140) (by assumption) (by kernel_rfl) ?_ (by kernel_rfl) (by kernel_rfl) (by kernel_rfl) (by decide +kernel)
  | refine Wp_name (by kernel_rfl) (by kernel_rfl) (by kernel_rfl) (by walk_at "look") ?_ (by decide +kernel)
  | refine Wp_store (by kernel_rfl) (by kernel_rfl) (by kernel_rfl) ?_
  | (refine Wp_int ?_; intro _)
  | (refine Wp_str ?_; intro _)
  | refine Wp_none ?_
  | refine Wp_binop ?_
  | refine Wp_tcmp (by kernel_rfl) ?_
  | refine Wp_cmp (by kernel_rfl) ?_
  | refine Wp_truthy ?_
  | (refine Wp_add ?_; intro _)
  | (refine Wp_sub ?_; intro _)
  | (refine Wp_iadd ?_; intro _)
  | refine Wp_ieq ?_
  | refine Wp_ine ?_
  | refine Wp_igt ?_
  | refine Wp_tand_nil ?_
  | refine Wp_tand ?_
  | refine Wp_tnot ?_
  | refine Wp_ifexp ?_
  | refine Wp_sliceS (fun _ _ _ => by kernel_rfl) (fun _ _ _ => by kernel_rfl) ?_
  | refine Wp_idx ?_
  | refine Wp_list ?_
  | refine Wp_tuple ?_
  | refine Wp_asub (by kernel_rfl) ?_
  | refine Wp_spl_nil ?_
  | refine Wp_spl_cons (by kernel_rfl) ?_
  | refine Wp_expr (by kernel_rfl) (by kernel_rfl) ?_
  | refine Wp_meth (by with_unfolding_all rfl) ?_
  | refine Wp_cwM1 (by kernel_rfl) (by kernel_rfl) ?_
  | refine Wp_cwM0 ?_
  | refine Wp_call (by kernel_rfl) ?_
  | refine Wp_cwB (by kernel_rfl) (by kernel_rfl) ?_
  | refine Wp_cwT (by kernel_rfl) (by kernel_rfl) ?_)

structure JR (nb : Led) (fs : List Nat) (W : List Int) (k : Nat) (m : Mp) (n : Led) : Prop where
  tx : ∃ t, m (Str.ofString "text") = some (.str (textOf fs) t)
  wd : ∃ t, m (Str.ofString "word") = some (.str (spellOf W) t)
  fd : ∃ t, m (Str.ofString "folded") = some (.str (spellOf (lets (cells ((lf fs).take k)))) t)
  ow : ∃ lo vo co, m (Str.ofString "owners") = some (.ref lo) ∧ (lo, listOf vo.toArray co) ∈ n ∧ IntsAre vo (owns (cells ((lf fs).take k)))
  sub : ∀ p ∈ nb, p ∈ n

structure JF (nb : Led) (lo ld : Addr) (vo : List Value) (co : Nat) (W : List Int) (cs : List Cell) (k : Nat) (m : Mp) (n : Led) : Prop where
  wd : ∃ t, m (Str.ofString "word") = some (.str (spellOf W) t)
  fd : ∃ t, m (Str.ofString "folded") = some (.str (spellOf (lets cs)) t)
  nn : ∃ t, m (Str.ofString "n") = some (.int W.length t)
  ow : m (Str.ofString "owners") = some (.ref lo)
  ol : (lo, listOf vo.toArray co) ∈ n
  sub : ∀ p ∈ nb, p ∈ n
  dn : m (Str.ofString "finds") = some (.ref ld)
  dm : ∃ vd cd, (ld, listOf vd.toArray cd) ∈ n ∧ Trips n vd ((List.range k).flatMap (readStep W cs))

theorem read_spec {w : World} {A : Around} {env : Env} {g : Heap} {fz : Led} {m : Mp} {nw : Led} {fs : List Nat} {W : List Int} {t1 t2 : Tok} {Q : Value → Mp → Led → Prop}
    (C : Cr w A env g) (hroom : A.depth + 1 < recursionLimit) (hh : A.handled = none) (hf20 : ∀ f ∈ fs, f < 20) (hfl : fs.length ≤ 24) (h1 : 0 < W.length) (h5 : W.length ≤ 5) (hW : ∀ x ∈ W, 0 ≤ x ∧ x < 4)
    (ret : ∀ l' vs' c' n', (∀ p ∈ nw, p ∈ n') → (l', listOf vs'.toArray c') ∈ n' → New nw l' → Trips n' vs' (readOf W (cells (lf fs))) → Q (.ref l') m n') :
    Wp w A g env.locals fz m nw (call (.ref 126) [.str (textOf fs) t1, .str (spellOf W) t2]) Q := by
  refine Wp_enter (nm := Str.ofString "_law_read") (params := fnArgs (stm 7)) (body := fnBody (stm 7)) (scope := fnScope (stm 7)) (dV := .none) (kV := .none) (doc := .none) (pm := .str (Str.ofString "law_dw5012_01") 2215) (an := none) (cdv := .ref 125) (ct := .none) (oc := .type "function") (od := none) (osl := #[])
    (binds := [(Str.ofString "text", .str (textOf fs) t1), (Str.ofString "word", .str (spellOf W) t2)]) C (by omega) (by rfl) (by rfl) (by rfl) (fun y hy => by
      rcases List.mem_cons.mp hy with rfl | hy
      · rfl
      · rw [List.mem_singleton.mp hy]; rfl) (by rfl) (by rfl) (by rfl) (by decide) ?_
  intro g' L' C'
  have G := C'.gd
  have tl := text_len fs
  have hlf : (lf fs).length = fs.length := List.length_map ..
  have fl3 : ∀ l ∈ lf fs, l.length ≤ 3 := fun l hl => by
    obtain ⟨f, _, rfl⟩ := List.mem_map.mp hl
    exact lettersOf_short f
  conv => enter [8, 1]; whnf
  repeat walk_at "st1"
  refine Wp_newList (by exact Nat.le_of_ble_eq_true rfl) fun lo hlo => ?_
  repeat walk_at "st1"
  refine Wp_forR (JR nw fs W) (by kernel_rfl) (by kernel_rfl) (by kernel_rfl) hh (fun _ => by kernel_rfl) ?_
  repeat walk_at "st1"
  refine Wp_lenS (by omega) fun t3 => ?_
  rw [tl]
  repeat walk_at "st1"
  refine Wp_range1 fun r t₁ u₁ v₁ hr => ?_
  refine ⟨r, 0, fs.length, t₁, u₁, v₁, rfl, .head, small_one (by omega) (by omega) (by omega) (by omega), ?_, ?_, ?_⟩
  · exact ⟨⟨_, by walk_at "look"⟩, ⟨_, by walk_at "look"⟩, ⟨_, by walk_at "look"⟩, ⟨lo, [], 0, by walk_at "look", .tail _ (.head _), .nil⟩, fun p hp => .tail _ (.tail _ hp)⟩
  · rintro k m₂ n₂ fz' tk hk ⟨⟨ta, ea⟩, ⟨tb, eb⟩, ⟨tc, ec⟩, ⟨lo', vo, co, ed, ee, ei⟩, es⟩
    have hk' : k < fs.length := by omega
    have hkl : k < (lf fs).length := by omega
    have hf := hf20 _ (List.getElem_mem hk')
    have hgd : (lf fs).getD k [] = lettersOf fs[k] := by rw [lf, List.getD_eq_getElem?_getD, List.getElem?_map, List.getElem?_eq_getElem hk']; rfl
    have hcl : (cells ((lf fs).take k)).length ≤ 3 * k := cells_len fl3 k (by omega)
    have hcs := cells_take_succ hkl
    rw [hgd] at hcs
    have hsx : (textOf fs).cps[((0 : Int) + (k : Int)).toNat]? = some (codeOf fs[k]) := by
      rw [show ((0 : Int) + (k : Int)).toNat = k by omega, textOf, List.getElem?_toArray, List.getElem?_map, List.getElem?_eq_getElem hk']; rfl
    repeat walk_at "st1"
    refine Wp_tplain (by kernel_rfl) ?_
    repeat walk_at "st1"
    refine Wp_cwF G (by kernel_rfl) (by kernel_rfl) (by kernel_rfl) ?_
    repeat walk_at "st1"
    refine Wp_itemS (fun _ => by kernel_rfl) (fun _ _ => by kernel_rfl) (by omega) (by omega) hsx fun t4 => ?_
    repeat walk_at "st1"
    refine in_spec (env := envOf (Str.ofString "_law_read") (fnScope (stm 7)) L' 126 (Value.ref 125)) C' (show A.depth + 1 < recursionLimit from hroom) hf fun n₃ hn₃ => ?_
    repeat walk_at "st1"
    by_cases h18 : 18 ≤ fs[k]
    · refine ite_f (by rw [decide_eq_true h18]; rfl) ?_
      repeat walk_at "st1"
      have hlz : lettersOf fs[k] = [] := by
        have : fs[k] = 18 ∨ fs[k] = 19 := by omega
        rcases this with e | e <;> rw [e] <;> rfl
      have e : cells ((lf fs).take (k + 1)) = cells ((lf fs).take k) := by rw [hcs, hlz]; exact List.append_nil _
      exact ⟨⟨_, by walk_at "look"⟩, ⟨_, by walk_at "look"⟩, ⟨tc, by rw [e]; walk_at "look"⟩, ⟨lo', vo, co, by walk_at "look", hn₃ _ ee, by rw [e]; exact ei⟩, fun p hp => hn₃ _ (es p hp)⟩
    · refine ite_t (by rw [decide_eq_false h18]; rfl) ?_
      repeat walk_at "st1"
      refine Wp_cwF G (by kernel_rfl) (by kernel_rfl) (by kernel_rfl) ?_
      repeat walk_at "st1"
      refine Wp_itemS (fun _ => by kernel_rfl) (fun _ _ => by kernel_rfl) (by omega) (by omega) hsx fun t5 => ?_
      repeat walk_at "st1"
      refine map_spec (env := envOf (Str.ofString "_law_read") (fnScope (stm 7)) L' 126 (Value.ref 125)) C' (show A.depth + 1 < recursionLimit from hroom) (by omega) fun t6 n₄ hn₄ => ?_
      have hsh := lettersOf_short fs[k]
      repeat walk_at "st1"
      rw [fold_spell]
      refine Wp_siadd (Nat.le_trans (show _ ≤ 100 by rw [spell_len, spell_len, lets_length]; omega) (Nat.le_of_ble_eq_true rfl)) fun t7 => ?_
      rw [spell_app]
      repeat walk_at "st1"
      refine Wp_newList (by exact Nat.le_of_ble_eq_true rfl) fun l1 hl1 => ?_
      repeat walk_at "st1"
      refine Wp_lenS (by rw [spell_len]; omega) fun t8 => ?_
      rw [spell_len]
      refine Wp_mulL .head (by omega) (by omega) (by simp; omega) fun l2 hl2 => ?_
      rw [mul_one_list, Int.toNat_natCast]
      have hvo : vo.length = (cells ((lf fs).take k)).length := by rw [ei.length, owns_length]
      refine Wp_addL (.inl (.tail _ (.tail _ (hn₄ _ (hn₃ _ ee))))) .head (Nat.le_trans (show _ ≤ 100 by rw [List.size_toArray, List.size_toArray, List.length_replicate]; omega) (Nat.le_of_ble_eq_true rfl)) fun l3 hl3 => ?_
      repeat walk_at "st1"
      have e : cells ((lf fs).take (k + 1)) = cells ((lf fs).take k) ++ cellsOf k (lettersOf fs[k]) := hcs
      refine ⟨⟨_, by walk_at "look"⟩, ⟨_, by walk_at "look"⟩, ⟨_, by rw [e, lets_app, lets_cellsOf]; walk_at "look"⟩, ⟨l3, _, 0, by walk_at "look", .head _, ?_⟩, fun p hp => .tail _ (.tail _ (.tail _ (hn₄ _ (hn₃ _ (es p hp)))))⟩
      rw [e, owns_app, owns_cellsOf_rep]
      refine IntsAre.append ei ?_
      rw [show ((0 : Int) + (k : Int)) = (k : Int) by omega]
      exact ints_rep _ _ _
  · rintro m₂ n₂ ⟨⟨ta, ea⟩, ⟨tb, eb⟩, ⟨tc, ec⟩, ⟨lo', vo, co, ed, ee, ei⟩, es⟩
    have e0 : ((fs.length : Int) - 0).toNat = (lf fs).length := by omega
    rw [e0, List.take_length] at ec ei
    have hlt : ∀ x ∈ lets (cells (lf fs)), 0 ≤ x ∧ x < 4 := fun x hx => lets_small (fs := fs) fs.length (Nat.le_refl _) x (by rw [← hlf, List.take_length]; exact hx)
    have hcl : (cells (lf fs)).length ≤ 72 := by
      have := cells_len fl3 fs.length (by omega)
      rw [← hlf, List.take_length] at this
      omega
    refine ⟨rfl, ?_⟩
    unfold readOf at ret
    generalize cells (lf fs) = cs at ret ec ei hlt hcl
    have hvo : vo.length = cs.length := by rw [ei.length, owns_length]
    have hol : (owns cs).length = cs.length := owns_length cs
    repeat walk_at "st1"
    refine Wp_newList (by exact Nat.le_of_ble_eq_true rfl) fun ld hld => ?_
    repeat walk_at "st1"
    refine Wp_lenS (by rw [spell_len]; omega) fun t8 => ?_
    rw [spell_len]
    repeat walk_at "st1"
    have hne : ld ≠ lo' := fun x => hld _ ee x.symm
    have hdn : New nw ld := fun p hp => hld p (es p hp)
    refine Wp_forR (JF nw lo' ld vo co W cs) (by kernel_rfl) (by kernel_rfl) (by kernel_rfl) hh (fun _ => by kernel_rfl) ?_
    repeat walk_at "st1"
    refine Wp_lenS (by rw [spell_len, lets_length]; omega) fun t9 => ?_
    rw [spell_len, lets_length]
    repeat walk_at "st1"
    refine Wp_range1 fun r t₁ u₁ v₁ hr => ?_
    refine ⟨r, 0, (cs.length : Int) - W.length + 1, t₁, u₁, v₁, rfl, .head, small_one (by omega) (by omega) (by omega) (by omega), ?_, ?_, ?_⟩
    · exact ⟨⟨_, by walk_at "look"⟩, ⟨_, by walk_at "look"⟩, ⟨_, by walk_at "look"⟩, by walk_at "look", .tail _ (.tail _ ee), fun p hp => .tail _ (.tail _ (es p hp)), by walk_at "look", [], 0, .tail _ (.head _), Trips.nil⟩
    · rintro p m₃ n₃ fz' tp hp ⟨⟨tb, eb⟩, ⟨tc, ec⟩, ⟨tn, en⟩, eo, el, es, ed, vd, cd, em, et⟩
      have hpn : p + W.length ≤ cs.length := by omega
      have hsl : Txt.slice (spellOf (lets cs)) (some ((0 : Int) + (p : Int))) (some ((0 : Int) + (p : Int) + (W.length : Int))) = spellOf (((lets cs).drop p).take W.length) := by
        rw [show ((0 : Int) + (p : Int)) = (p : Int) by omega, show ((p : Int) + (W.length : Int)) = ((p + W.length : Nat) : Int) by omega, slice_spell (by omega) (by rw [lets_length]; omega), Nat.add_sub_cancel_left]
      have hrange : (List.range (p + 1)).flatMap (readStep W cs) = (List.range p).flatMap (readStep W cs) ++ readStep W cs p := by
        rw [List.range_succ, List.flatMap_append]; simp
      have hfl2 : vd.length ≤ 72 := by
        rw [et.1]
        exact Nat.le_trans (flat_len _ (fun j => by unfold readStep; split <;> simp) p) (by omega)
      repeat walk_at "st1"
      refine ⟨_, _, rfl, Nat.le_trans (show _ ≤ 100 by rw [spell_len, lets_length]; omega) (Nat.le_of_ble_eq_true rfl), ?_⟩
      repeat walk_at "st1"
      refine ⟨_, _, rfl, ?_⟩
      repeat walk_at "st1"
      refine ⟨_, _, rfl, fun t10 => ?_⟩
      rw [hsl]
      repeat walk_at "st1"
      refine Wp_seq ?_
      repeat walk_at "st1"
      rw [spell_beq (fun x hx => hlt x (List.mem_of_mem_drop (List.mem_of_mem_take hx))) hW]
      by_cases hw : ((lets cs).drop p).take W.length = W
      · refine ite_t (decide_eq_true hw) ?_
        repeat walk_at "st1"
        refine Wp_andB (b := ((0 : Int) + (p : Int) == 0) || ((owns cs).getD ((0 : Int) + (p : Int) - 1).toNat 0 != (owns cs).getD ((0 : Int) + (p : Int)).toNat 0))
          (e := ((0 : Int) + (p : Int) + (W.length : Int) == (cs.length : Int)) || ((owns cs).getD ((0 : Int) + (p : Int) + (W.length : Int)).toNat 0 != (owns cs).getD ((0 : Int) + (p : Int) + (W.length : Int) - 1).toNat 0)) ?_ (fun _ => ?_) ?_
        · refine Wp_orB (b := ((0 : Int) + (p : Int) == 0)) (e := (owns cs).getD ((0 : Int) + (p : Int) - 1).toNat 0 != (owns cs).getD ((0 : Int) + (p : Int)).toNat 0) ?_ (fun hb => ?_) ⟨rfl, rfl, rfl⟩
          · repeat walk_at "st1"
            first | exact ⟨rfl, rfl, rfl⟩ | exact ⟨rfl, rfl⟩ | exact rfl
          · have hb := beq_eq_false_iff_ne.mp hb
            repeat walk_at "st1"
            refine Wp_itemI (by kernel_rfl) (.inl el) ei (by omega) (by omega) (by omega) fun _ => ?_
            repeat walk_at "st1"
            refine Wp_itemI (by kernel_rfl) (.inl el) ei (by omega) (by omega) (by omega) fun _ => ?_
            repeat walk_at "st1"
            first | exact ⟨rfl, rfl, rfl⟩ | exact ⟨rfl, rfl⟩ | exact rfl
        · refine Wp_orB (b := ((0 : Int) + (p : Int) + (W.length : Int) == (cs.length : Int))) (e := (owns cs).getD ((0 : Int) + (p : Int) + (W.length : Int)).toNat 0 != (owns cs).getD ((0 : Int) + (p : Int) + (W.length : Int) - 1).toNat 0) ?_ (fun hb => ?_) ⟨rfl, rfl, rfl⟩
          · repeat walk_at "st1"
            refine Wp_lenS (by rw [spell_len, lets_length]; omega) fun t11 => ?_
            rw [spell_len, lets_length]
            repeat walk_at "st1"
            first | exact ⟨rfl, rfl, rfl⟩ | exact ⟨rfl, rfl⟩ | exact rfl
          · have hb := beq_eq_false_iff_ne.mp hb
            repeat walk_at "st1"
            refine Wp_itemI (by kernel_rfl) (.inl el) ei (by omega) (by omega) (by omega) fun _ => ?_
            repeat walk_at "st1"
            refine Wp_itemI (by kernel_rfl) (.inl el) ei (by omega) (by omega) (by omega) fun _ => ?_
            repeat walk_at "st1"
            first | exact ⟨rfl, rfl, rfl⟩ | exact ⟨rfl, rfl⟩ | exact rfl
        have hstep : readStep W cs p = [((owns cs).getD ((0 : Int) + (p : Int)).toNat 0, (owns cs).getD ((0 : Int) + (p : Int) + (W.length : Int) - 1).toNat 0,
            (((0 : Int) + (p : Int) == 0) || ((owns cs).getD ((0 : Int) + (p : Int) - 1).toNat 0 != (owns cs).getD ((0 : Int) + (p : Int)).toNat 0)) &&
            (((0 : Int) + (p : Int) + (W.length : Int) == (cs.length : Int)) || ((owns cs).getD ((0 : Int) + (p : Int) + (W.length : Int)).toNat 0 != (owns cs).getD ((0 : Int) + (p : Int) + (W.length : Int) - 1).toNat 0)))] := by
          rw [show ((0 : Int) + (p : Int)).toNat = p by omega, show ((0 : Int) + (p : Int) - 1).toNat = p - 1 by omega, show ((0 : Int) + (p : Int) + (W.length : Int)).toNat = p + W.length by omega, show ((0 : Int) + (p : Int) + (W.length : Int) - 1).toNat = p + W.length - 1 by omega]
          rw [show (((0 : Int) + (p : Int)) == 0) = (p == 0) by rw [Bool.eq_iff_iff, beq_iff_eq, beq_iff_eq]; omega, show ((0 : Int) + (p : Int) + (W.length : Int) == (cs.length : Int)) = (p + W.length == cs.length) by rw [Bool.eq_iff_iff, beq_iff_eq, beq_iff_eq]; omega]
          unfold readStep
          rw [if_pos hw]
        generalize hwh : ((((0 : Int) + (p : Int) == 0) || ((owns cs).getD ((0 : Int) + (p : Int) - 1).toNat 0 != (owns cs).getD ((0 : Int) + (p : Int)).toNat 0)) && (((0 : Int) + (p : Int) + (W.length : Int) == (cs.length : Int)) || ((owns cs).getD ((0 : Int) + (p : Int) + (W.length : Int)).toNat 0 != (owns cs).getD ((0 : Int) + (p : Int) + (W.length : Int) - 1).toNat 0))) = whole at hstep ⊢
        repeat walk_at "st1"
        refine Wp_gmAppend (.inl em) ?_
        repeat walk_at "st1"
        refine Wp_itemI (by kernel_rfl) (.inl el) ei (by omega) (by omega) (by omega) fun tq1 => ?_
        repeat walk_at "st1"
        refine Wp_itemI (by kernel_rfl) (.inl el) ei (by omega) (by omega) (by omega) fun tq2 => ?_
        repeat walk_at "st1"
        refine Wp_newTuple (by exact Nat.le_of_ble_eq_true rfl) fun d2 hd2 => ?_
        repeat walk_at "st1"
        refine Wp_nd fun nd => ?_
        refine Wp_appendL (List.mem_cons_of_mem _ em) (Nat.le_trans hfl2 (Nat.le_of_ble_eq_true rfl)) ⟨rfl, rfl, ?_⟩
        repeat walk_at "st1"
        refine ⟨⟨_, by walk_at "look"⟩, ⟨_, by walk_at "look"⟩, ⟨_, by walk_at "look"⟩, by walk_at "look", updL_mem_ne (.tail _ el) hne.symm, fun q hq => updL_mem_ne (.tail _ (es q hq)) (hdn q hq), by walk_at "look", _, _, updL_mem (.tail _ em), ?_⟩
        rw [hrange, hstep]
        exact (et.mono fun _ _ _ x => TupSub.upd nd (List.mem_cons_of_mem _ em) _ _ _ (List.mem_cons_of_mem _ x)).snoc (t := tq1) (u := tq2) (tup_upd nd (.tail _ em) (.head _))
      · refine ite_f (decide_eq_false hw) ?_
        repeat walk_at "st1"
        have hstep : readStep W cs p = [] := by unfold readStep; rw [if_neg hw]
        exact ⟨⟨_, by walk_at "look"⟩, ⟨_, by walk_at "look"⟩, ⟨_, by walk_at "look"⟩, by walk_at "look", el, es, by walk_at "look", vd, cd, em, by rw [hrange, hstep, List.append_nil]; exact et⟩
    · rintro m₃ n₃ ⟨⟨_, _⟩, _, _, _, _, js, jd, vd, cd, jm, jt⟩
      have e : ((cs.length : Int) - W.length + 1 - 0).toNat = cs.length + 1 - W.length := by omega
      rw [e] at jt
      refine ⟨rfl, ?_⟩
      repeat walk_at "st1"
      exact ⟨_, rfl, ret ld vd cd n₃ js jm hdn jt⟩
end Mine
end

section
open PySem PySem.W PyProof.Rows PyProof.V PySem.Calls
set_option maxRecDepth 100000
set_option maxHeartbeats 8000000
namespace Mine

theorem forms_of : ∀ {ys : List Value}, (∀ (i : Nat) y, ys[i]? = some y → ∃ f, f < 20 ∧ y = formRef f) → ∃ fs : List Nat, ys = fs.map formRef ∧ ∀ f ∈ fs, f < 20
  | [], _ => ⟨[], rfl, fun _ h => nomatch h⟩
  | y :: ys, h => by
    obtain ⟨f, hf, rfl⟩ := h 0 y rfl
    obtain ⟨fs, rfl, hfs⟩ := forms_of (ys := ys) fun i z hz => h (i + 1) z (by simpa using hz)
    exact ⟨f :: fs, rfl, fun x hx => by rcases List.mem_cons.mp hx with rfl | hx; exact hf; exact hfs x hx⟩
theorem ints_of : ∀ {ys : List Value}, (∀ (i : Nat) y, ys[i]? = some y → ∃ (n : Int) (t : Tok), (0 ≤ n ∧ n < 4) ∧ y = .int n t) → ∃ W : List Int, IntsAre ys W ∧ W.length = ys.length ∧ ∀ x ∈ W, 0 ≤ x ∧ x < 4
  | [], _ => ⟨[], .nil, rfl, fun _ h => nomatch h⟩
  | y :: ys, h => by
    obtain ⟨n, t, hn, rfl⟩ := h 0 y rfl
    obtain ⟨W, hi, hl, hW⟩ := ints_of (ys := ys) fun i z hz => h (i + 1) z (by simpa using hz)
    exact ⟨n :: W, .cons n t hi, by simp [hl], fun x hx => by rcases List.mem_cons.mp hx with rfl | hx; exact hn; exact hW x hx⟩
theorem strs_of : ∀ {ys : List Value} {cs : List Nat}, ys.length = cs.length → (∀ (i : Nat) y, ys[i]? = some y → ∃ t, y = .str ⟨#[cs.getD i 0]⟩ t) → StrsAre ys (cs.map fun c => ⟨#[c]⟩)
  | [], [], _, _ => .nil
  | [], _ :: _, h, _ => by simp at h
  | _ :: _, [], h, _ => by simp at h
  | y :: ys, c :: cs, hl, h => by
    obtain ⟨t, rfl⟩ := h 0 y rfl
    exact .cons _ t (strs_of (by simpa using hl) fun i z hz => by
      obtain ⟨t, e⟩ := h (i + 1) z (by simpa using hz)
      exact ⟨t, by simpa using e⟩)
theorem foldl_singles : ∀ (cs : List Nat) (a : Array Nat), (cs.map fun c => (⟨#[c]⟩ : Str)).foldl (fun acc p => acc ++ (⟨#[]⟩ : Str).cps ++ p.cps) a = a ++ cs.toArray
  | [], a => by simp
  | c :: cs, a => by
    rw [List.map_cons, List.foldl_cons, foldl_singles cs]
    apply Array.toList_inj.mp
    simp
theorem join_singles (cs : List Nat) : Txt.join (Str.ofString "") (cs.map fun c => ⟨#[c]⟩) = ⟨cs.toArray⟩ := by
  rw [show Str.ofString "" = (⟨#[]⟩ : Str) by rfl]
  cases cs with
  | nil => rfl
  | cons c cs =>
    show (⟨_⟩ : Str) = _
    congr 1
    refine (foldl_singles cs #[c]).trans ?_
    apply Array.toList_inj.mp
    simp
theorem singles_len (cs : List Nat) : ((cs.map fun c => (⟨#[c]⟩ : Str)).map (·.length)).sum = cs.length := by
  induction cs with
  | nil => rfl
  | cons c cs ih =>
    rw [List.map_cons, List.map_cons, List.sum_cons, ih, List.length_cons]
    show 1 + cs.length = _
    omega
theorem fmod_range (x : Int) {n : Int} (h : 0 < n) : 0 ≤ x.fmod n ∧ x.fmod n < n := ⟨Int.fmod_nonneg_of_pos x h, Int.fmod_lt_of_pos x h⟩
theorem stfi_get {x : Int} (h : 0 ≤ x ∧ x < 4) : (Str.ofString "stfi").cps[x.toNat]? = some (letterCode x) := by
  have : x = 0 ∨ x = 1 ∨ x = 2 ∨ x = 3 := by omega
  rcases this with rfl | rfl | rfl | rfl <;> rfl
theorem code_small : ∀ i, i < 20 → (decide ((codeOf i : Int) < 0) || decide ((codeOf i : Int) > 1114111)) = false :=
  below20 ⟨rfl, rfl, rfl, rfl, rfl, rfl, rfl, rfl, rfl, rfl, rfl, rfl, rfl, rfl, rfl, rfl, rfl, rfl, rfl, rfl⟩
theorem forms_get {j : Nat} (h : j < 20) : ((List.range 20).map formRef)[j]? = some (formRef j) := by
  rw [List.getElem?_map, List.getElem?_range h]; rfl
theorem cell_ne {nw : Led} (hn : (nw.map (·.1)).Nodup) {c l : Addr} {o : Obj} {v : Option Value} {its : Array Value} {k : Nat} (hc : (c, o) ∈ nw) (hd : o.data = .cell v) (hl : (l, W.listOf its k) ∈ nw) : l ≠ c := by
  intro e
  have := nd_inj hn hl hc e
  have e2 : W.listOf its k = o := congrArg Prod.snd this
  rw [← e2] at hd
  cases hd
end Mine
end

section
open PySem PySem.W PyProof.Rows PyProof.V PySem.Calls
set_option maxRecDepth 100000
set_option maxHeartbeats 8000000
namespace Mine
local macro_rules | `(tactic| walk_at "look") => `(tactic| first | with_reducible assumption | with_reducible exact upd_eq | (with_reducible refine (upd_ne (by decide +kernel)).trans ?_; walk_at "look") | with_unfolding_all exact rfl)
local macro_rules | `(tactic| walk_at "st1") => `(tactic| with_reducible first
  | refine And.intro rfl ?_
  | refine Wp_rets ?_
  | refine Wp_step ?_
  | refine Wp_nil ?_
  | refine Wp_assign (by kernel_rfl) ?_
  | refine Wp_aug ?_
  | refine Wp_if ?_
  | refine Wp_loadName (by kernel_rfl) (by kernel_rfl) (by kernel_rfl) (by walk_at "look") ?_
  | refine Wp_blt (x := Str.ofString "len") (v := .builtin "len") (by assumption) (by kernel_rfl) (by kernel_rfl) (by decide +kernel) ?_ (by kernel_rfl) (by kernel_rfl) (by kernel_rfl) (by kernel_rfl) (by decide +kernel)
  | refine Wp_blt (x := Str.ofString "range") (v := .type "range") (by assumption) (by kernel_rfl) (by kernel_rfl) (by decide +kernel) ?_ (by kernel_rfl) (by kernel_rfl) (by kernel_rfl) (by kernel_rfl) (by decide +kernel)
  | refine Wp_blt (x := Str.ofString "ord") (v := .builtin "ord") (by assumption) (by kernel_rfl) (by kernel_rfl) (by decide +kernel) ?_ (by kernel_rfl) (by kernel_rfl) (by kernel_rfl) (by kernel_rfl) (by decide +kernel)
  | refine Wp_blt (x := Str.ofString "chr") (v := .builtin "chr") (by assumption) (by kernel_rfl) (by kernel_rfl) (by decide +kernel) ?_ (by kernel_rfl) (by kernel_rfl) (by kernel_rfl) (by kernel_rfl) (by decide +kernel)
  | refine Wp_blt (x := Str.ofString "list") (v := .type "list") (by assumption) (by kernel_rfl) (by kernel_rfl) (by decide +kernel) ?_ (by kernel_rfl) (by kernel_rfl) (by kernel_rfl) (by kernel_rfl) (by decide +kernel)
  | refine Wp_glob (x := Str.ofString "in_table_b1") (v := .ref 32) (by assumption) (by kernel_rfl) ?_ (by kernel_rfl) (by kernel_rfl) (by kernel_rfl) (by decide +kernel)
  | refine Wp_glob (x := Str.ofString "map_table_b3") (v := .ref 78) (by assumption) (by kernel_rfl) ?_ (by kernel_rfl) (by kernel_rfl) (by kernel_rfl) (by decide +kernel)
  | refine Wp_glob (x := Str.ofString "b1_set") (v := .ref 22) (by assumption) (by kernel_rfl) ?_ (by kernel_rfl) (by kernel_rfl) (by kernel_rfl) (by decide +kernel)
  | refine Wp_glob (x := Str.ofString "b3_exceptions") (v := .ref 33) (by assumption) (by kernel_rfl) ?_ (by kernel_rfl) (by kernel_rfl) (by kernel_rfl) (by decide +kernel)
  | refine Wp_glob (x := Str.ofString "_law_FORMS") (v := .ref 119) (by assumption) (by kernel_rfl) ?_ (by kernel_rfl) (by kernel_rfl) (by kernel_rfl) (by decide +kernel)
  | refine Wp_glob (x := Str.ofString "_law_borders") (v := .ref 133) (by assumption) (by kernel_rfl) ?_ (by kernel_rfl) (by kernel_rfl) (by kernel_rfl) (by decide +kernel)
  | refine Wp_glob (x := Str.ofString "_law_read") (v := .ref 126) (by assumption) (by kernel_rfl) ?_ (by kernel_rfl) (by kernel_rfl) (by kernel_rfl) (by decide +kernel)
  | refine Wp_glob (x := Str.ofString "_law_automaton") (v := .ref 140) (by assumption) (by kernel_rfl) ?_ (by kernel_rfl) (by kernel_rfl) (by kernel_rfl) (by decide +kernel)
  | refine Wp_name (by kernel_rfl) (by kernel_rfl) (by kernel_rfl) (by walk_at "look") ?_ (by decide +kernel)
  | refine Wp_store (by kernel_rfl) (by kernel_rfl) (by kernel_rfl) ?_
  | (refine Wp_int ?_; intro _)
  | (refine Wp_str ?_; intro _)
  | refine Wp_none ?_
  | refine Wp_binop ?_
  | refine Wp_tcmp (by kernel_rfl) ?_
  | refine Wp_cmp (by kernel_rfl) ?_
  | refine Wp_truthy ?_
  | (refine Wp_add ?_; intro _)
  | (refine Wp_sub ?_; intro _)
  | (refine Wp_iadd ?_; intro _)
  | refine Wp_ieq ?_
  | refine Wp_ine ?_
  | refine Wp_igt ?_
  | refine Wp_tand_nil ?_
  | refine Wp_tand ?_
  | refine Wp_tnot ?_
  | refine Wp_ifexp ?_
  | refine Wp_idx ?_
  | refine Wp_list ?_
  | refine Wp_tuple ?_
  | refine Wp_asub (by kernel_rfl) ?_
  | refine Wp_spl_nil ?_
  | refine Wp_spl_cons (by kernel_rfl) ?_
  | refine Wp_expr (by kernel_rfl) (by kernel_rfl) ?_
  | refine Wp_meth (by with_unfolding_all rfl) ?_
  | refine Wp_cwM1 (by kernel_rfl) (by kernel_rfl) ?_
  | refine Wp_cwM0 ?_
  | refine Wp_call (by kernel_rfl) ?_
  | refine Wp_cwB (by kernel_rfl) (by kernel_rfl) ?_
  | refine Wp_cwT (by kernel_rfl) (by kernel_rfl) ?_)

local macro_rules | `(tactic| walk_at "st3") => `(tactic| with_reducible first
  | refine Wp_sliceL (fun _ _ => by kernel_rfl) (fun _ _ => by kernel_rfl) ?_
  | walk_at "st2")
def Stop (P : Prop) : Prop := P
theorem stop_rest {w : World} {A : Around} {g : Heap} {L : Addr} {fz : Led} {m : Mp} {nw : Led} {env : Env} {v : Value} {Q : Unit → Mp → Led → Prop} (h : Stop (Wp w A g L fz m nw (storeName env (Str.ofString "rest") v) Q)) : Wp w A g L fz m nw (storeName env (Str.ofString "rest") v) Q := h
local macro_rules | `(tactic| walk_at "st2") => `(tactic| with_reducible first
  | refine stop_rest ?_
  | (refine Wp_mod (by decide) ?_; intro _)
  | (refine Wp_fdiv (by assumption) (by kernel_rfl) (by kernel_rfl) (by kernel_rfl) (by kernel_rfl) (Nat.le_of_ble_eq_true (by kernel_rfl)) (by decide) ?_; intro _)
  | walk_at "st1")

structure JL (c lo : Addr) (o : Obj) (fs : List Nat) (hd : Int) (k : Nat) (m : Mp) (n : Led) : Prop where
  cm : (c, o) ∈ n
  fo : m (Str.ofString "forms") = some (.ref lo)
  fl : (lo, LCg.lst (fs.map formRef)) ∈ n
  hd : ∃ t, m (Str.ofString "head") = some (.int hd t)
  ft : ∃ lt vt ct, m (Str.ofString "flat") = some (.ref lt) ∧ (lt, PySem.W.listOf vt.toArray ct) ∈ n ∧ IntsAre vt (lets (cells ((lf fs).take k)))

theorem law_spec {w : World} {g : Heap} {mean : ExcName → Option Value} {mg mb : Str → Option Value} (T : Top q (looseW q loose) mean mg mb g) (KX : (K w.params).In g) (B : Below callerA g [] g)
    {fa : Addr} {cd : Value} {l : Addr} {vs : List Value} {ns : List Int} (hl : g.IsList l vs.toArray) (hi : IntsAre vs ns) (hlen : ns.length ≤ 63) {m : Mp} (hm : m (Str.ofString "script") = some (.ref l)) {o : Obj} (hd : o.data = .cell none) :
    Wp w (callerA.deeper (envOfC dLaw.name dLaw.scope g.objs.size fa cd)) g g.objs.size [] m [(g.objs.size + 1, o)] (execs dLaw.body (envOfC dLaw.name dLaw.scope g.objs.size fa cd)) fun f _ _ => f = .ret (.bool true) := by
  have C0 : Cr w (callerA.deeper (envOfC dLaw.name dLaw.scope g.objs.size fa cd)) (envOfC dLaw.name dLaw.scope g.objs.size fa cd) g :=
    ⟨⟨⟨mean, mg, mb, T⟩, KX⟩, ⟨callerA, g, [], B, rfl⟩, rfl, by kernel_rfl⟩
  have G := C0.gd
  have hh : (callerA.deeper (envOfC dLaw.name dLaw.scope g.objs.size fa cd)).handled = none := by kernel_rfl
  have hu : (callerA.deeper (envOfC dLaw.name dLaw.scope g.objs.size fa cd)).units + 64 < cLine := by exact Nat.le_of_ble_eq_true (by kernel_rfl)
  have hvl : vs.length = ns.length := hi.length
  generalize hL : g.objs.size = L at *
  conv => enter [8, 1]; whnf
  -- head
  refine Wp_mid (fun m' n' => (L + 1, o) ∈ n' ∧ m' (Str.ofString "script") = some (.ref l) ∧ ∃ h t, m' (Str.ofString "head") = some (.int h t)) ?_ ?_
  · repeat walk_at "st2"
    refine Wp_newList (by exact Nat.le_of_ble_eq_true rfl) fun d0 hd0 => ?_
    repeat walk_at "st2"
    refine Wp_neG (us := []) hl hi .head .nil hu ?_
    repeat walk_at "st2"
    by_cases h0 : ns = []
    · refine ite_f (by rw [decide_eq_true h0]; rfl) ?_
      repeat walk_at "st2"
      exact ⟨.tail _ (.head _), by walk_at "look", _, _, by walk_at "look"⟩
    · refine ite_t (by rw [decide_eq_false h0]; rfl) ?_
      have := List.length_pos_iff.mpr h0
      repeat walk_at "st2"
      refine Wp_itemG (by kernel_rfl) hl hi (by decide) (by decide) (by show 0 < ns.length; exact this) fun _ => ?_
      repeat walk_at "st2"
      exact ⟨.tail _ (.head _), by walk_at "look", _, _, by walk_at "look"⟩
  rintro m₁ n₁ ⟨hc, hm, hdv, th, hhd⟩
  -- forms
  refine Wp_mid (fun m' n' => ∃ (lo : Addr) (fs : List Nat), fs.length ≤ 24 ∧ (∀ f ∈ fs, f < 20) ∧ (L + 1, o) ∈ n' ∧ m' (Str.ofString "forms") = some (.ref lo) ∧ (lo, LCg.lst (fs.map formRef)) ∈ n' ∧ m' (Str.ofString "head") = some (.int hdv th)) ?_ ?_
  · refine Wp_acompL (fun _ y => ∃ f, f < 20 ∧ y = formRef f) (cl := []) (by kernel_rfl) (by kernel_rfl) ⟨by kernel_rfl, by decide, by kernel_rfl, by decide, by kernel_rfl, fun _ => by kernel_rfl⟩ hh (by kernel_rfl) (by kernel_rfl) ?_
    refine Wp_sliceG (fun _ _ => by kernel_rfl) (fun _ _ => by kernel_rfl) ?_
    repeat walk_at "st2"
    refine ⟨_, rfl, ?_⟩
    repeat walk_at "st2"
    refine ⟨_, _, rfl, ?_⟩
    repeat walk_at "st2"
    refine ⟨_, _, _, rfl, hl, Nat.le_trans (show _ ≤ 100 by rw [List.size_toArray]; omega) (Nat.le_of_ble_eq_true rfl), fun d hnd => ?_⟩
    have hrun := kmk_run (x := 1) (y := 25) hi (by decide) (by decide)
    have hsz : (slicePick vs.toArray (some 1) (some 25) none).size ≤ 24 := by
      have := hrun.length
      rw [Array.length_toList] at this
      rw [this, List.length_take, List.length_drop]
      show min (min 25 ns.length - 1) (ns.length - 1) ≤ 24
      omega
    generalize slicePick vs.toArray (some 1) (some 25) none = sl at hrun hsz
    refine ⟨rfl, d, sl, 0, rfl, .inl (.head _), Nat.le_trans hsz (Nat.le_of_ble_eq_true rfl), ?_, fun D ys hD hys hF => ?_⟩
    · intro i v fz' C oC m₂ hin hP hN hx hC
      obtain ⟨tv, rfl⟩ := hrun.int_at i v (by rw [Array.getElem?_toList]; exact hP)
      obtain ⟨r1, r2⟩ := fmod_range (List.getD ((ns.drop (1 : Int).toNat).take (min (25 : Int).toNat ns.length - (1 : Int).toNat)) i 0) (n := 20) (by decide)
      repeat walk_at "st2"
      refine Wp_nameIn (by kernel_rfl) (by kernel_rfl) (by kernel_rfl) hC hN hx ?_ (by decide +kernel)
      repeat walk_at "st2"
      generalize List.getD ((ns.drop (1 : Int).toNat).take (min (25 : Int).toNat ns.length - (1 : Int).toNat)) i 0 = xx at r1 r2 ⊢
      exact Wp_itemT (by kernel_rfl) (At.K G (forms_tuple _)) (by omega) (by omega) (j := (xx.fmod 20).toNat) (seqIndex_pos (by omega) (by rw [List.length_map, List.length_range]; omega)) (forms_get (by omega)) ⟨rfl, rfl, _, by omega, rfl⟩
    · obtain ⟨fs, rfl, hfs⟩ := forms_of hF
      exact ⟨rfl, D, fs, by rw [List.length_map] at hys; omega, hfs, .tail _ (.tail _ hc), by walk_at "look", .head _, by walk_at "look"⟩
  rintro m₂ n₂ ⟨lo, fs, hfl, hf20, hc, hfo, hfm, hhd⟩
  -- flat
  have fl3 : ∀ l ∈ lf fs, l.length ≤ 3 := fun l hl => by
    obtain ⟨f, _, rfl⟩ := List.mem_map.mp hl
    exact lettersOf_short f
  have hlf : (lf fs).length = fs.length := List.length_map ..
  repeat walk_at "st2"
  refine Wp_newList (by exact Nat.le_of_ble_eq_true rfl) fun lt hlt => ?_
  repeat walk_at "st2"
  refine Wp_forL (JL (L + 1) lo o fs hdv) (by kernel_rfl) (by kernel_rfl) (by kernel_rfl) hh (fun _ => by kernel_rfl) ?_
  repeat walk_at "st2"
  refine ⟨lo, _, _, rfl, ⟨.tail _ hc, by walk_at "look", .tail _ hfm, ⟨_, by walk_at "look"⟩, lt, [], 0, by walk_at "look", .head _, .nil⟩, fun i m n J => J.fl, ?_, ?_⟩
  · rintro i v m' n' fz' hv ⟨jc, jf, jl, ⟨jt, jh⟩, lt', vt, ct, jn, jm, ji⟩
    obtain ⟨hi', rfl⟩ : ∃ h : i < fs.length, v = Value.ref (80 + 2 * fs[i]) := by
      rw [List.getElem?_toArray, List.getElem?_map] at hv
      by_cases h : i < fs.length
      · rw [List.getElem?_eq_getElem h] at hv
        exact ⟨h, (Option.some.inj hv).symm⟩
      · rw [List.getElem?_eq_none (by omega)] at hv
        cases hv
    have hf := hf20 _ (List.getElem_mem hi')
    have hkl : i < (lf fs).length := by omega
    have hgd : (lf fs).getD i [] = lettersOf fs[i] := by rw [lf, List.getD_eq_getElem?_getD, List.getElem?_map, List.getElem?_eq_getElem hi']; rfl
    have hcl : (cells ((lf fs).take i)).length ≤ 3 * i := cells_len fl3 i (by omega)
    have hcs := cells_take_succ hkl
    rw [hgd] at hcs
    have hsh := lettersOf_short fs[i]
    obtain ⟨tf, hft⟩ := form_tuple w.params fs[i] hf
    obtain ⟨vf, hvf, hvi⟩ := form_letters w.params fs[i] hf
    have hvo : vt.length = (cells ((lf fs).take i)).length := by rw [ji.length, lets_length]
    have hvl' : vf.length = (lettersOf fs[i]).length := hvi.length
    repeat walk_at "st2"
    refine Wp_itemT (by kernel_rfl) (At.K G hft) (by decide) (by decide) (j := 1) rfl rfl ?_
    repeat walk_at "st2"
    refine Wp_listT (At.K G hvf) (Nat.le_trans (show _ ≤ 100 by rw [List.size_toArray]; omega) (Nat.le_of_ble_eq_true rfl)) fun d2 c2 hd2 => ?_
    repeat walk_at "st2"
    refine Wp_addL (.inl (.tail _ jm)) .head (Nat.le_trans (show _ ≤ 100 by rw [List.size_toArray, List.size_toArray]; omega) (Nat.le_of_ble_eq_true rfl)) fun d3 hd3 => ?_
    repeat walk_at "st2"
    refine ⟨.tail _ (.tail _ jc), by walk_at "look", .tail _ (.tail _ jl), ⟨_, by walk_at "look"⟩, d3, _, 0, by walk_at "look", .head _, ?_⟩
    rw [hcs, lets_app, lets_cellsOf]
    exact IntsAre.append ji hvi
  rintro m₃ n₃ ⟨jc, jf, jl, ⟨jt, jh⟩, lt', vt, ct, jn, jm, ji⟩
  have e0 : (fs.map formRef).toArray.size = (lf fs).length := by rw [List.size_toArray, List.length_map, hlf]
  rw [e0, List.take_length] at ji
  have hlt4 : ∀ x ∈ lets (cells (lf fs)), 0 ≤ x ∧ x < 4 := fun x hx => lets_small (fs := fs) fs.length (Nat.le_refl _) x (by rw [← hlf, List.take_length]; exact hx)
  have hcl : (cells (lf fs)).length ≤ 72 := by
    have := cells_len fl3 fs.length (by omega)
    rw [← hlf, List.take_length] at this
    omega
  have hvt : vt.length = (cells (lf fs)).length := by rw [ji.length, lets_length]
  refine ⟨rfl, ?_⟩
  -- size, rest
  obtain ⟨s1, s2⟩ := fmod_range hdv (n := 5) (by decide)
  repeat walk_at "st2"
  unfold Stop
  refine Wp_nd fun nd => ?_
  refine Wp_storeC (by kernel_rfl) (by kernel_rfl) (c := L + 1) (by kernel_rfl) jc hd fun o' ho' => ?_
  have q1 : (L + 1, o') ∈ updL n₃ (L + 1) o' := updL_mem jc
  have q2 : (lo, LCg.lst (fs.map formRef)) ∈ updL n₃ (L + 1) o' := updL_mem_ne jl (cell_ne nd jc hd jl)
  have q3 : (lt', PySem.W.listOf vt.toArray ct) ∈ updL n₃ (L + 1) o' := updL_mem_ne jm (cell_ne nd jc hd jm)
  generalize updL n₃ (L + 1) o' = n₄ at q1 q2 q3 ⊢
  refine ⟨rfl, ?_⟩
  -- word
  refine Wp_mid (fun m' n' => ∃ (lw : Addr) (vw : List Value) (W : List Int) (cw : Nat), m' (Str.ofString "forms") = some (.ref lo) ∧ (lo, LCg.lst (fs.map formRef)) ∈ n' ∧ m' (Str.ofString "word") = some (.ref lw) ∧ (lw, PySem.W.listOf vw.toArray cw) ∈ n' ∧ IntsAre vw W ∧ 0 < W.length ∧ W.length ≤ 5 ∧ ∀ x ∈ W, 0 ≤ x ∧ x < 4) ?_ ?_
  · have hsz5 : 0 < 1 + hdv.fmod 5 ∧ 1 + hdv.fmod 5 ≤ 5 := by omega
    generalize 1 + hdv.fmod 5 = sz at hsz5 ⊢
    refine Wp_if (Wp_mono (Q := fun c m₁ n₁ => (m₁ (Str.ofString "forms") = some (.ref lo) ∧ m₁ (Str.ofString "flat") = some (.ref lt') ∧ ∃ t, m₁ (Str.ofString "size") = some (.int sz t)) ∧ (∀ p ∈ n₄, p ∈ n₁) ∧ (c = true → lets (cells (lf fs)) ≠ [])) ?_ ?_)
    · repeat walk_at "st2"
      by_cases hev : (hdv.fdiv 5).fmod 2 = 0
      · refine ite_t (beq_iff_eq.mpr hev) ?_
        repeat walk_at "st2"
        refine Wp_newList (by exact Nat.le_of_ble_eq_true rfl) fun d0 hd0 => ?_
        repeat walk_at "st2"
        refine Wp_neL (us := []) (.inl (.tail _ q3)) ji .head .nil hu ?_
        repeat walk_at "st2"
        by_cases he : lets (cells (lf fs)) = []
        · refine ite_f (by rw [decide_eq_true he]; rfl) ⟨⟨by walk_at "look", by walk_at "look", _, by walk_at "look"⟩, fun p hp => .tail _ hp, fun x => nomatch x⟩
        · refine ite_t (by rw [decide_eq_false he]; rfl) ?_
          repeat walk_at "st2"
          exact ⟨⟨by walk_at "look", by walk_at "look", _, by walk_at "look"⟩, fun p hp => .tail _ hp, fun _ => he⟩
      · refine ite_f (beq_eq_false_iff_ne.mpr hev) ?_
        exact ⟨⟨by walk_at "look", by walk_at "look", _, by walk_at "look"⟩, fun p hp => hp, fun x => nomatch x⟩
    · rintro c m₁ n₁ ⟨⟨hfo, hfla, tsz, hsi⟩, hsub, hcne⟩
      have q1 := hsub _ q1
      have q2 := hsub _ q2
      have q3 := hsub _ q3
      cases c with
      | true =>
        have hne := List.length_pos_iff.mpr (hcne rfl)
        rw [lets_length] at hne
        refine ite_t rfl ?_
        obtain ⟨r1, r2⟩ := fmod_range (hdv.fdiv 10) (n := ((cells (lf fs)).length : Int)) (by omega)
        have hlc : (lets (cells (lf fs))).length = (cells (lf fs)).length := lets_length _
        repeat walk_at "st3"
        refine Wp_nameCell (by kernel_rfl) (by kernel_rfl) (c := L + 1) (by kernel_rfl) q1 ho' ?_ (by decide +kernel)
        repeat walk_at "st3"
        refine Wp_lenL (.inl q3) (by rw [List.size_toArray]; omega) fun _ => ?_
        rw [List.size_toArray, hvt]
        refine Wp_mod (by omega) fun _ => ?_
        generalize (hdv.fdiv 10).fmod ((cells (lf fs)).length : Int) = st at r1 r2 ⊢
        repeat walk_at "st3"
        refine ⟨_, rfl, ?_⟩
        repeat walk_at "st3"
        refine ⟨_, _, rfl, ?_⟩
        repeat walk_at "st3"
        refine ⟨_, _, _, _, rfl, .inl q3, Nat.le_trans (show _ ≤ 100 by rw [List.size_toArray]; omega) (Nat.le_of_ble_eq_true rfl), fun d hd => ?_⟩
        repeat walk_at "st3"
        refine ⟨d, _, _, 0, by walk_at "look", .tail _ q2, by walk_at "look", .head _, kmk_run ji (by omega) (by omega), ?_, ?_, fun x hx => hlt4 x (List.mem_of_mem_drop (List.mem_of_mem_take hx))⟩
        · rw [List.length_take, List.length_drop]; omega
        · rw [List.length_take, List.length_drop]; omega
      | false =>
        refine ite_f rfl (Wp_step ?_)
        refine Wp_acompR (fun _ y => ∃ (n : Int) (t : Tok), (0 ≤ n ∧ n < 4) ∧ y = .int n t) (cl := [(Str.ofString "rest", L + 1)]) (by kernel_rfl) (by kernel_rfl) ⟨by kernel_rfl, by decide, by kernel_rfl, by decide, by kernel_rfl, fun _ => by kernel_rfl⟩ hh (by kernel_rfl) (by kernel_rfl) ?_
        repeat walk_at "st2"
        refine Wp_range1 fun r t₁ u₁ v₁ hr => ?_
        refine ⟨rfl, r, 0, sz, t₁, u₁, v₁, sz.toNat, rfl, .inl (.head _), small_one (by omega) (by omega) (by omega) (by omega), by omega, Nat.le_trans (show _ ≤ 100 by omega) (Nat.le_of_ble_eq_true rfl), ?_, fun D ys hD hys hF => ?_⟩
        · rintro i v fz' C oC m₂ hin ⟨tv, rfl⟩ hN hx hC
          repeat walk_at "st2"
          refine Wp_nameCell (by kernel_rfl) (by kernel_rfl) (c := L + 1) (by kernel_rfl) (.tail _ q1) ho' ?_ (by decide +kernel)
          repeat walk_at "st2"
          refine Wp_nameIn (by kernel_rfl) (by kernel_rfl) (by kernel_rfl) hC hN hx ?_ (by decide +kernel)
          repeat walk_at "st2"
          refine Wp_pow (by omega) ?_ fun _ => ?_
          · rw [show Builtin.Int.intBits 4 = 3 by decide]
            omega
          refine Wp_fdiv C0 (by kernel_rfl) (by kernel_rfl) (by kernel_rfl) (by kernel_rfl) (Nat.le_of_ble_eq_true (by kernel_rfl)) (Int.ne_of_gt (Int.pow_pos (by decide))) fun _ => ?_
          repeat walk_at "st2"
          exact ⟨_, _, fmod_range _ (by decide), rfl⟩
        · obtain ⟨W, hi', hl', hW⟩ := ints_of hF
          repeat walk_at "st2"
          exact ⟨D, ys, W, _, by walk_at "look", .tail _ (.tail _ q2), by walk_at "look", .head _, hi', by omega, by omega, hW⟩
  rintro m₅ n₅ ⟨lw, vw, W, cw, hfo, hfm, hwo, hwm, hwi, h1, h5, hW⟩
  -- text
  have hroom : (callerA.deeper (envOfC dLaw.name dLaw.scope L fa cd)).depth + 1 < recursionLimit := Nat.le_of_ble_eq_true (by kernel_rfl)
  have hvw : vw.length = W.length := hwi.length
  repeat walk_at "st2"
  refine Wp_gmJoin ?_
  repeat walk_at "st2"
  refine Wp_compL (fun i y => ∃ t, y = .str ⟨#[(fs.map codeOf).getD i 0]⟩ t) (cl := []) ⟨by kernel_rfl, by decide, by kernel_rfl, by decide, by kernel_rfl, fun _ => by kernel_rfl⟩ hh ?_
  repeat walk_at "st2"
  refine ⟨lo, _, _, rfl, .inl hfm, Nat.le_trans (show _ ≤ 100 by rw [List.size_toArray, List.length_map]; omega) (Nat.le_of_ble_eq_true rfl), ?_, fun D ys hD hys hF => ?_⟩
  · intro i v fz' C oC m₂ hin hv hN hx hC
    rw [List.size_toArray, List.length_map] at hin
    have hf := hf20 _ (List.getElem_mem hin)
    obtain rfl : v = Value.ref (80 + 2 * fs[i]) := by
      rw [List.getElem?_toArray, List.getElem?_map, List.getElem?_eq_getElem hin] at hv
      exact (Option.some.inj hv).symm
    obtain ⟨tf, hft⟩ := form_tuple w.params fs[i] hf
    repeat walk_at "st2"
    refine Wp_nameIn (by kernel_rfl) (by kernel_rfl) (by kernel_rfl) hC hN hx ?_ (by decide +kernel)
    repeat walk_at "st2"
    refine Wp_itemT (by kernel_rfl) (At.K G hft) (by decide) (by decide) (j := 0) rfl rfl ?_
    repeat walk_at "st2"
    refine Wp_chr (code_small _ hf) fun tc => ⟨rfl, rfl, tc, ?_⟩
    rw [Int.toNat_natCast, List.getD_eq_getElem?_getD, List.getElem?_map, List.getElem?_eq_getElem hin]
    rfl
  rw [List.size_toArray, List.length_map] at hys
  repeat walk_at "st2"
  refine Wp_join (.inl (.head _)) (strs_of (cs := fs.map codeOf) (by rw [List.length_map]; exact hys) hF) (by rw [singles_len, List.length_map, show (Str.ofString "").length = 0 by rfl]; omega) fun t1 => ?_
  rw [join_singles]
  repeat walk_at "st2"
  refine Wp_gmJoin ?_
  repeat walk_at "st2"
  refine Wp_compL (fun i y => ∃ t, y = .str ⟨#[(W.map letterCode).getD i 0]⟩ t) (cl := []) ⟨by kernel_rfl, by decide, by kernel_rfl, by decide, by kernel_rfl, fun _ => by kernel_rfl⟩ hh ?_
  repeat walk_at "st2"
  refine ⟨lw, _, _, rfl, .inl (.tail _ hwm), Nat.le_trans (show _ ≤ 100 by rw [List.size_toArray]; omega) (Nat.le_of_ble_eq_true rfl), ?_, fun D₂ ys₂ hD₂ hys₂ hF₂ => ?_⟩
  · intro i v fz' C oC m₂ hin hv hN hx hC
    rw [List.size_toArray, hvw] at hin
    obtain ⟨tv, rfl⟩ := hwi.int_at i v (by rw [← List.getElem?_toArray]; exact hv)
    have hx4 : 0 ≤ W.getD i 0 ∧ W.getD i 0 < 4 := by
      rw [List.getD_eq_getElem?_getD, List.getElem?_eq_getElem hin]
      exact hW _ (List.getElem_mem hin)
    have hcode : (W.map letterCode).getD i 0 = letterCode (W.getD i 0) := by
      rw [List.getD_eq_getElem?_getD, List.getElem?_map, List.getD_eq_getElem?_getD, List.getElem?_eq_getElem hin]; rfl
    generalize W.getD i 0 = x at hx4 hx hcode ⊢
    repeat walk_at "st2"
    refine Wp_nameIn (by kernel_rfl) (by kernel_rfl) (by kernel_rfl) hC hN hx ?_ (by decide +kernel)
    repeat walk_at "st2"
    exact Wp_itemS (fun _ => by kernel_rfl) (fun _ _ => by kernel_rfl) hx4.1 (by omega) (stfi_get hx4) fun t => ⟨rfl, rfl, t, by rw [hcode]⟩
  rw [List.size_toArray, hvw] at hys₂
  repeat walk_at "st2"
  refine Wp_join (.inl (.head _)) (strs_of (cs := W.map letterCode) (by rw [List.length_map]; exact hys₂) hF₂) (by rw [singles_len, List.length_map, show (Str.ofString "").length = 0 by rfl]; omega) fun t2 => ?_
  rw [join_singles]
  -- the calls
  repeat walk_at "st2"
  refine Wp_cwF G (by kernel_rfl) (by kernel_rfl) (by kernel_rfl) ?_
  repeat walk_at "st2"
  refine read_spec (env := envOfC dLaw.name dLaw.scope L fa cd) (fs := fs) (W := W) C0 hroom hh hf20 hfl h1 h5 hW fun l1 vs1 c1 n₆ hn₆ hl1 hl1n ht1 => ?_
  repeat walk_at "st2"
  refine Wp_cwF G (by kernel_rfl) (by kernel_rfl) (by kernel_rfl) ?_
  repeat walk_at "st2"
  refine automaton_spec (env := envOfC dLaw.name dLaw.scope L fa cd) (fs := fs) (W := W) C0 hroom hh hf20 hfl (hn₆ _ (.tail _ (.tail _ hfm))) (hn₆ _ (.tail _ (.tail _ hwm))) hwi h1 h5 fun l2 vs2 c2 n₇ hn₇ hl2 hl2n ht2 => ?_
  rw [read_finds h1] at ht1
  refine Wp_eqTrips (hn₇ _ hl1) (ht1.mono (TupSub.of hn₇)) hl2 ht2 hu rfl
end Mine
end

section
open PySem PySem.W PyProof.Rows PyProof.V PySem.Calls
set_option maxRecDepth 100000
set_option maxHeartbeats 8000000
namespace Mine
theorem walk : WalkGoal := by
  unfold WalkGoal
  k_go0
  rename_i w s0 s1 mg mb G Y fa ob pm doc ho hg KX X V GL T B TE TW a1 a2 M cda a3 hcd ns hs hlay0 hL1 hr1 hl2 as1 as2 l vs as3 hL ra w1 r0 hI hr hc1 hc2 K0 hD h₁ tk₁ F o right N0 X0
  refine wpAny_mono (law_spec (cd := Value.ref cda) (fa := fa) T KX K0 hL hI (by omega) (m := _) (o := o) (by kernel_rfl) (right.trans (by kernel_rfl)) _ (fun f s' => f = .ret (.bool true) ∧ ∃ h' tk' m', s' = { heap := h', gens := s1.gens, drawn := s1.drawn, toks := tk', os := s1.os } ∧ Fr s1.heap s1.heap.objs.size h' m') ⟨F, N0, by simp⟩ ?_) ?_ fun _ _ x => x.elim
  · rintro a m' nw' h' tk' rfl H'
    exact ⟨rfl, h', tk', m', rfl, H'.fr⟩
  · rintro f s' ⟨rfl, h', tk', m', rfl, F'⟩
    refine goodW_bool F' hg (fun _ => by rfl) ?_
    kc_post
end Mine
end

section
open PySem PySem.W PyProof.Rows PySem.Calls
set_option maxRecDepth 100000
namespace Mine

def subObj (j : Nat) : Obj := ⟨.type "dict", none, .dict ((entriesFrom (646 - 17 * (j + 1)) (256 + 51 * (j + 1)) ((b3Pairs.drop (17 * (j + 1))).take 17)).toArray) (if j = 37 then 4 else 17), #[]⟩
def b3Obj : Obj := ⟨.type "dict", none, .dict b3Entries.toArray 650, #[]⟩
def ob_11 : Params → Obj := fun P => (Obj.mk (Value.type "code") none (Data.fields (List.toArray [(Value.str (Str.ofString "<module>") 182), (Value.str (Str.ofString "<module>") 183), (Value.str (Str.ofString "/claim/cut.py") 184), (Value.int (1 : Int) 0), (Value.int (0 : Int) 0), (Value.int (0 : Int) 0), (Value.int (0 : Int) 0), (Value.int (0 : Int) 0), (Value.ref 11), (Value.bool Bool.false), (Value.int (181 : Int) 0), (Value.ref 12), Value.none, Value.none, Value.none, Value.none, (Value.int (185 : Int) 0), (Value.int (1 : Int) 0), (Value.str (Str.ofString "/claim/cut.py") 186)])) (List.toArray []))
def ob_12 : Params → Obj := fun P => (Obj.mk (Value.type "frame") none Data.plain (List.toArray [(some (Value.ref 13)), (some (Value.ref 3)), (some (Value.ref 3)), none, (some (Value.str (Str.ofString "__main__") 164)), none, (some (Value.ref 0))]))
def ob_13 : Params → Obj := fun P => (Obj.mk (Value.type "dict") none (Data.dict (List.toArray [(DictEntry.mk (PyData.keyHash P (Str.ofString "__name__")) (Value.str (Str.ofString "__name__") 165) (Value.str (Str.ofString "cpy313.stringprep") 187)), (DictEntry.mk (PyData.keyHash P (Str.ofString "__doc__")) (Value.str (Str.ofString "__doc__") 166) Value.none), (DictEntry.mk (PyData.keyHash P (Str.ofString "__package__")) (Value.str (Str.ofString "__package__") 167) Value.none), (DictEntry.mk (PyData.keyHash P (Str.ofString "__loader__")) (Value.str (Str.ofString "__loader__") 168) (Value.builtin "__main__.__loader__#opaque")), (DictEntry.mk (PyData.keyHash P (Str.ofString "__spec__")) (Value.str (Str.ofString "__spec__") 169) Value.none), (DictEntry.mk (PyData.keyHash P (Str.ofString "__annotations__")) (Value.str (Str.ofString "__annotations__") 170) (Value.ref 6)), (DictEntry.mk (PyData.keyHash P (Str.ofString "__builtins__")) (Value.str (Str.ofString "__builtins__") 171) (Value.ref 4)), (DictEntry.mk (PyData.keyHash P (Str.ofString "__file__")) (Value.str (Str.ofString "__file__") 173) (Value.str (Str.ofString "/claim/cut.py") 172)), (DictEntry.mk (PyData.keyHash P (Str.ofString "__cached__")) (Value.str (Str.ofString "__cached__") 174) Value.none)]) 9) (List.toArray []))
def ob_14 : Params → Obj := fun P => (Obj.mk (Value.type "dict") none (Data.dict (List.toArray [(DictEntry.mk (PyData.keyHash P (Str.ofString "__name__")) (Value.str (Str.ofString "__name__") 165) (Value.str (Str.ofString "cpy313.stringprep") 187)), (DictEntry.mk (PyData.keyHash P (Str.ofString "__doc__")) (Value.str (Str.ofString "__doc__") 166) Value.none), (DictEntry.mk (PyData.keyHash P (Str.ofString "__package__")) (Value.str (Str.ofString "__package__") 167) Value.none), (DictEntry.mk (PyData.keyHash P (Str.ofString "__loader__")) (Value.str (Str.ofString "__loader__") 168) (Value.builtin "__main__.__loader__#opaque")), (DictEntry.mk (PyData.keyHash P (Str.ofString "__spec__")) (Value.str (Str.ofString "__spec__") 169) Value.none), (DictEntry.mk (PyData.keyHash P (Str.ofString "__annotations__")) (Value.str (Str.ofString "__annotations__") 170) (Value.ref 6)), (DictEntry.mk (PyData.keyHash P (Str.ofString "__builtins__")) (Value.str (Str.ofString "__builtins__") 171) (Value.ref 4)), (DictEntry.mk (PyData.keyHash P (Str.ofString "__file__")) (Value.str (Str.ofString "__file__") 173) (Value.str (Str.ofString "/claim/cut.py") 172)), (DictEntry.mk (PyData.keyHash P (Str.ofString "__cached__")) (Value.str (Str.ofString "__cached__") 174) Value.none), (DictEntry.mk (PyData.keyHash P (Str.ofString "b1_set")) (Value.str (Str.ofString "b1_set") 248) (Value.ref 22))]) 10) (List.toArray []))
def ob_15 : Params → Obj := fun P => (Obj.mk (Value.type "list") none (Data.seq (List.toArray [(Value.int (173 : Int) 189), (Value.int (847 : Int) 190), (Value.int (6150 : Int) 191), (Value.int (6155 : Int) 192), (Value.int (6156 : Int) 193), (Value.int (6157 : Int) 194), (Value.int (8203 : Int) 195), (Value.int (8204 : Int) 196), (Value.int (8205 : Int) 197), (Value.int (8288 : Int) 198), (Value.int (65279 : Int) 199)]) 0) (List.toArray []))
def ob_16 : Params → Obj := fun P => (Obj.mk (Value.type "range") none (Data.fields (List.toArray [(Value.int (65024 : Int) 200), (Value.int (65040 : Int) 201), (Value.int (1 : Int) 202)])) (List.toArray []))
def ob_17 : Params → Obj := fun P => (Obj.mk (Value.type "list") none (Data.seq (List.toArray [(Value.int (65024 : Int) 205), (Value.int (65025 : Int) 206), (Value.int (65026 : Int) 207), (Value.int (65027 : Int) 208), (Value.int (65028 : Int) 209), (Value.int (65029 : Int) 210), (Value.int (65030 : Int) 211), (Value.int (65031 : Int) 212), (Value.int (65032 : Int) 213), (Value.int (65033 : Int) 214), (Value.int (65034 : Int) 215), (Value.int (65035 : Int) 216), (Value.int (65036 : Int) 217), (Value.int (65037 : Int) 218), (Value.int (65038 : Int) 219), (Value.int (65039 : Int) 220)]) 18) (List.toArray []))
def ob_18 : Params → Obj := fun P => (Obj.mk (Value.type "range_iterator") none (Data.fields (List.toArray [(Value.int (65040 : Int) 0), (Value.int (0 : Int) 0), (Value.int (1 : Int) 0)])) (List.toArray []))
def ob_19 : Params → Obj := fun P => (Obj.mk (Value.type "StopIteration") none (Data.fields (List.toArray [(Value.ref 19), Value.none, Value.none, Value.none, (Value.bool Bool.false), Value.none])) (List.toArray []))
def ob_20 : Params → Obj := fun P => (Obj.mk (Value.type "list") none (Data.seq (List.toArray [(Value.int (173 : Int) 189), (Value.int (847 : Int) 190), (Value.int (6150 : Int) 191), (Value.int (6155 : Int) 192), (Value.int (6156 : Int) 193), (Value.int (6157 : Int) 194), (Value.int (8203 : Int) 195), (Value.int (8204 : Int) 196), (Value.int (8205 : Int) 197), (Value.int (8288 : Int) 198), (Value.int (65279 : Int) 199), (Value.int (65024 : Int) 205), (Value.int (65025 : Int) 206), (Value.int (65026 : Int) 207), (Value.int (65027 : Int) 208), (Value.int (65028 : Int) 209), (Value.int (65029 : Int) 210), (Value.int (65030 : Int) 211), (Value.int (65031 : Int) 212), (Value.int (65032 : Int) 213), (Value.int (65033 : Int) 214), (Value.int (65034 : Int) 215), (Value.int (65035 : Int) 216), (Value.int (65036 : Int) 217), (Value.int (65037 : Int) 218), (Value.int (65038 : Int) 219), (Value.int (65039 : Int) 220)]) 0) (List.toArray []))
def ob_21 : Params → Obj := fun P => (Obj.mk (Value.type "set") none (Data.set (List.toArray [((65024 : Int), (Value.int (65024 : Int) 205)), ((65025 : Int), (Value.int (65025 : Int) 206)), ((65026 : Int), (Value.int (65026 : Int) 207)), ((65027 : Int), (Value.int (65027 : Int) 208)), ((65028 : Int), (Value.int (65028 : Int) 209)), ((65029 : Int), (Value.int (65029 : Int) 210)), ((6150 : Int), (Value.int (6150 : Int) 191)), ((65030 : Int), (Value.int (65030 : Int) 211)), ((65031 : Int), (Value.int (65031 : Int) 212)), ((65032 : Int), (Value.int (65032 : Int) 213)), ((65033 : Int), (Value.int (65033 : Int) 214)), ((6155 : Int), (Value.int (6155 : Int) 192)), ((6156 : Int), (Value.int (6156 : Int) 193)), ((6157 : Int), (Value.int (6157 : Int) 194)), ((8203 : Int), (Value.int (8203 : Int) 195)), ((8204 : Int), (Value.int (8204 : Int) 196)), ((8205 : Int), (Value.int (8205 : Int) 197)), ((65034 : Int), (Value.int (65034 : Int) 215)), ((65035 : Int), (Value.int (65035 : Int) 216)), ((65036 : Int), (Value.int (65036 : Int) 217)), ((65037 : Int), (Value.int (65037 : Int) 218)), ((65038 : Int), (Value.int (65038 : Int) 219)), ((65039 : Int), (Value.int (65039 : Int) 220)), ((173 : Int), (Value.int (173 : Int) 189)), ((847 : Int), (Value.int (847 : Int) 190)), ((8288 : Int), (Value.int (8288 : Int) 198)), ((65279 : Int), (Value.int (65279 : Int) 199))]) 29 (SetTable.mk 127 (List.toArray [0, 1, 2, 3, 4, 5, 6, 7, 8, 9, 10, 11, 12, 13, 14, 15, 16, 17, 18, 19, 20, 21, 22, 45, 79, 96, 127]) (List.toArray []) 0 (Bool.not (Params.followText P "set-order")) 2 Bool.true)) (List.toArray []))
def ob_22 : Params → Obj := fun P => (Obj.mk (Value.type "list_iterator") none (Data.fields (List.toArray [Value.none, (Value.int (27 : Int) 0)])) (List.toArray []))
def ob_23 : Params → Obj := fun P => (Obj.mk (Value.type "StopIteration") none (Data.fields (List.toArray [(Value.ref 24), Value.none, Value.none, Value.none, (Value.bool Bool.false), Value.none])) (List.toArray []))
def ob_24 : Params → Obj := fun P => (Obj.mk (Value.type "dict") none (Data.dict (List.toArray [(DictEntry.mk (PyData.keyHash P (Str.ofString "__name__")) (Value.str (Str.ofString "__name__") 165) (Value.str (Str.ofString "cpy313.stringprep") 187)), (DictEntry.mk (PyData.keyHash P (Str.ofString "__doc__")) (Value.str (Str.ofString "__doc__") 166) Value.none), (DictEntry.mk (PyData.keyHash P (Str.ofString "__package__")) (Value.str (Str.ofString "__package__") 167) Value.none), (DictEntry.mk (PyData.keyHash P (Str.ofString "__loader__")) (Value.str (Str.ofString "__loader__") 168) (Value.builtin "__main__.__loader__#opaque")), (DictEntry.mk (PyData.keyHash P (Str.ofString "__spec__")) (Value.str (Str.ofString "__spec__") 169) Value.none), (DictEntry.mk (PyData.keyHash P (Str.ofString "__annotations__")) (Value.str (Str.ofString "__annotations__") 170) (Value.ref 6)), (DictEntry.mk (PyData.keyHash P (Str.ofString "__builtins__")) (Value.str (Str.ofString "__builtins__") 171) (Value.ref 4)), (DictEntry.mk (PyData.keyHash P (Str.ofString "__file__")) (Value.str (Str.ofString "__file__") 173) (Value.str (Str.ofString "/claim/cut.py") 172)), (DictEntry.mk (PyData.keyHash P (Str.ofString "__cached__")) (Value.str (Str.ofString "__cached__") 174) Value.none), (DictEntry.mk (PyData.keyHash P (Str.ofString "b1_set")) (Value.str (Str.ofString "b1_set") 248) (Value.ref 22)), (DictEntry.mk (PyData.keyHash P (Str.ofString "in_table_b1")) (Value.str (Str.ofString "in_table_b1") 255) (Value.ref 32))]) 11) (List.toArray []))
def ob_25 : Params → Obj := fun P => (Obj.mk Value.none none (Data.fields (List.toArray [(Value.int (3 : Int) 0), (Value.int (0 : Int) 0), (Value.ref 31)])) (List.toArray []))
def ob_26 : Params → Obj := fun P => (Obj.mk (Value.type "tuple") none (Data.seq (List.toArray [(Value.str (Str.ofString "code") 252)]) 0) (List.toArray []))
def ob_27 : Params → Obj := fun P => (Obj.mk Value.none none (Data.func (FuncData.mk (Str.ofString "in_table_b1") (Str.ofString "in_table_b1") (fnArgs (stm 2)) (FuncBody.stmts (fnBody (stm 2))) (fnScope (stm 2)) 0 [] Value.none Value.none Value.none Value.none none Value.none Value.none 0)) (List.toArray []))
def ob_28 : Params → Obj := fun P => (Obj.mk (Value.type "code") none (Data.fields (List.toArray [(Value.str (Str.ofString "in_table_b1") 249), (Value.str (Str.ofString "in_table_b1") 250), (Value.str (Str.ofString "/claim/cut.py") 251), (Value.int (3 : Int) 0), (Value.int (1 : Int) 0), (Value.int (0 : Int) 0), (Value.int (0 : Int) 0), (Value.int (3 : Int) 0), (Value.ref 26), (Value.bool Bool.true), (Value.int (181 : Int) 0), (Value.ref 27), Value.none, (Value.ref 28), (Value.ref 29), (Value.ref 30), (Value.int (253 : Int) 0), (Value.int (3 : Int) 0), (Value.str (Str.ofString "/claim/cut.py") 254)])) (List.toArray []))
def ob_29 : Params → Obj := fun P => (Obj.mk (Value.type "function") none (Data.func (FuncData.mk (Str.ofString "in_table_b1") (Str.ofString "in_table_b1") (fnArgs (stm 2)) (FuncBody.stmts (fnBody (stm 2))) (fnScope (stm 2)) 3 [] Value.none Value.none Value.none (Value.str (Str.ofString "cpy313.stringprep") 187) none (Value.ref 31) Value.none 0)) (List.toArray []))
def ob_30 : Params → Obj := fun P => (Obj.mk (Value.type "dict") none (Data.dict (List.toArray [(DictEntry.mk (PyData.keyHash P (Str.ofString "__name__")) (Value.str (Str.ofString "__name__") 165) (Value.str (Str.ofString "cpy313.stringprep") 187)), (DictEntry.mk (PyData.keyHash P (Str.ofString "__doc__")) (Value.str (Str.ofString "__doc__") 166) Value.none), (DictEntry.mk (PyData.keyHash P (Str.ofString "__package__")) (Value.str (Str.ofString "__package__") 167) Value.none), (DictEntry.mk (PyData.keyHash P (Str.ofString "__loader__")) (Value.str (Str.ofString "__loader__") 168) (Value.builtin "__main__.__loader__#opaque")), (DictEntry.mk (PyData.keyHash P (Str.ofString "__spec__")) (Value.str (Str.ofString "__spec__") 169) Value.none), (DictEntry.mk (PyData.keyHash P (Str.ofString "__annotations__")) (Value.str (Str.ofString "__annotations__") 170) (Value.ref 6)), (DictEntry.mk (PyData.keyHash P (Str.ofString "__builtins__")) (Value.str (Str.ofString "__builtins__") 171) (Value.ref 4)), (DictEntry.mk (PyData.keyHash P (Str.ofString "__file__")) (Value.str (Str.ofString "__file__") 173) (Value.str (Str.ofString "/claim/cut.py") 172)), (DictEntry.mk (PyData.keyHash P (Str.ofString "__cached__")) (Value.str (Str.ofString "__cached__") 174) Value.none), (DictEntry.mk (PyData.keyHash P (Str.ofString "b1_set")) (Value.str (Str.ofString "b1_set") 248) (Value.ref 22)), (DictEntry.mk (PyData.keyHash P (Str.ofString "in_table_b1")) (Value.str (Str.ofString "in_table_b1") 255) (Value.ref 32)), (DictEntry.mk (PyData.keyHash P (Str.ofString "b3_exceptions")) (Value.str (Str.ofString "b3_exceptions") 2206) (Value.ref 33))]) 12) (List.toArray []))
def ob_72 : Params → Obj := fun P => (Obj.mk (Value.type "tuple") none (Data.seq (List.toArray [(Value.str (Str.ofString "code") 2210), (Value.str (Str.ofString "r") 2211)]) 0) (List.toArray []))
def ob_73 : Params → Obj := fun P => (Obj.mk Value.none none (Data.func (FuncData.mk (Str.ofString "map_table_b3") (Str.ofString "map_table_b3") (fnArgs (stm 4)) (FuncBody.stmts (fnBody (stm 4))) (fnScope (stm 4)) 0 [] Value.none Value.none Value.none Value.none none Value.none Value.none 0)) (List.toArray []))
def ob_74 : Params → Obj := fun P => (Obj.mk (Value.type "code") none (Data.fields (List.toArray [(Value.str (Str.ofString "map_table_b3") 2207), (Value.str (Str.ofString "map_table_b3") 2208), (Value.str (Str.ofString "/claim/cut.py") 2209), (Value.int (6 : Int) 0), (Value.int (1 : Int) 0), (Value.int (0 : Int) 0), (Value.int (0 : Int) 0), (Value.int (3 : Int) 0), (Value.ref 72), (Value.bool Bool.true), (Value.int (181 : Int) 0), (Value.ref 73), Value.none, (Value.ref 74), (Value.ref 75), (Value.ref 76), (Value.int (2212 : Int) 0), (Value.int (6 : Int) 0), (Value.str (Str.ofString "/claim/cut.py") 2213)])) (List.toArray []))
def ob_75 : Params → Obj := fun P => (Obj.mk (Value.type "function") none (Data.func (FuncData.mk (Str.ofString "map_table_b3") (Str.ofString "map_table_b3") (fnArgs (stm 4)) (FuncBody.stmts (fnBody (stm 4))) (fnScope (stm 4)) 3 [] Value.none Value.none Value.none (Value.str (Str.ofString "cpy313.stringprep") 187) none (Value.ref 77) Value.none 0)) (List.toArray []))
def ob_78 : Params → Obj := fun P => (Obj.mk (Value.type "tuple") none (Data.seq (List.toArray [(Value.int (0 : Int) 2218)]) 0) (List.toArray []))
def ob_79 : Params → Obj := fun P => (Obj.mk (Value.type "tuple") none (Data.seq (List.toArray [(Value.int (115 : Int) 2217), (Value.ref 79)]) 0) (List.toArray []))
def ob_80 : Params → Obj := fun P => (Obj.mk (Value.type "tuple") none (Data.seq (List.toArray [(Value.int (0 : Int) 2220)]) 0) (List.toArray []))
def ob_81 : Params → Obj := fun P => (Obj.mk (Value.type "tuple") none (Data.seq (List.toArray [(Value.int (83 : Int) 2219), (Value.ref 81)]) 0) (List.toArray []))
def ob_82 : Params → Obj := fun P => (Obj.mk (Value.type "tuple") none (Data.seq (List.toArray [(Value.int (0 : Int) 2222)]) 0) (List.toArray []))
def ob_83 : Params → Obj := fun P => (Obj.mk (Value.type "tuple") none (Data.seq (List.toArray [(Value.int (383 : Int) 2221), (Value.ref 83)]) 0) (List.toArray []))
def ob_84 : Params → Obj := fun P => (Obj.mk (Value.type "tuple") none (Data.seq (List.toArray [(Value.int (0 : Int) 2224), (Value.int (0 : Int) 2225)]) 0) (List.toArray []))
def ob_85 : Params → Obj := fun P => (Obj.mk (Value.type "tuple") none (Data.seq (List.toArray [(Value.int (223 : Int) 2223), (Value.ref 85)]) 0) (List.toArray []))
def ob_86 : Params → Obj := fun P => (Obj.mk (Value.type "tuple") none (Data.seq (List.toArray [(Value.int (0 : Int) 2227), (Value.int (1 : Int) 2228)]) 0) (List.toArray []))
def ob_87 : Params → Obj := fun P => (Obj.mk (Value.type "tuple") none (Data.seq (List.toArray [(Value.int (64261 : Int) 2226), (Value.ref 87)]) 0) (List.toArray []))
def ob_88 : Params → Obj := fun P => (Obj.mk (Value.type "tuple") none (Data.seq (List.toArray [(Value.int (0 : Int) 2230), (Value.int (1 : Int) 2231)]) 0) (List.toArray []))
def ob_89 : Params → Obj := fun P => (Obj.mk (Value.type "tuple") none (Data.seq (List.toArray [(Value.int (64262 : Int) 2229), (Value.ref 89)]) 0) (List.toArray []))
def ob_90 : Params → Obj := fun P => (Obj.mk (Value.type "tuple") none (Data.seq (List.toArray [(Value.int (1 : Int) 2233)]) 0) (List.toArray []))
def ob_91 : Params → Obj := fun P => (Obj.mk (Value.type "tuple") none (Data.seq (List.toArray [(Value.int (116 : Int) 2232), (Value.ref 91)]) 0) (List.toArray []))
def ob_92 : Params → Obj := fun P => (Obj.mk (Value.type "tuple") none (Data.seq (List.toArray [(Value.int (1 : Int) 2235)]) 0) (List.toArray []))
def ob_93 : Params → Obj := fun P => (Obj.mk (Value.type "tuple") none (Data.seq (List.toArray [(Value.int (84 : Int) 2234), (Value.ref 93)]) 0) (List.toArray []))
def ob_94 : Params → Obj := fun P => (Obj.mk (Value.type "tuple") none (Data.seq (List.toArray [(Value.int (1 : Int) 2237)]) 0) (List.toArray []))
def ob_95 : Params → Obj := fun P => (Obj.mk (Value.type "tuple") none (Data.seq (List.toArray [(Value.int (119827 : Int) 2236), (Value.ref 95)]) 0) (List.toArray []))
def ob_96 : Params → Obj := fun P => (Obj.mk (Value.type "tuple") none (Data.seq (List.toArray [(Value.int (2 : Int) 2239)]) 0) (List.toArray []))
def ob_97 : Params → Obj := fun P => (Obj.mk (Value.type "tuple") none (Data.seq (List.toArray [(Value.int (102 : Int) 2238), (Value.ref 97)]) 0) (List.toArray []))
def ob_98 : Params → Obj := fun P => (Obj.mk (Value.type "tuple") none (Data.seq (List.toArray [(Value.int (2 : Int) 2241)]) 0) (List.toArray []))
def ob_99 : Params → Obj := fun P => (Obj.mk (Value.type "tuple") none (Data.seq (List.toArray [(Value.int (70 : Int) 2240), (Value.ref 99)]) 0) (List.toArray []))
def ob_100 : Params → Obj := fun P => (Obj.mk (Value.type "tuple") none (Data.seq (List.toArray [(Value.int (2 : Int) 2243), (Value.int (2 : Int) 2244)]) 0) (List.toArray []))
def ob_101 : Params → Obj := fun P => (Obj.mk (Value.type "tuple") none (Data.seq (List.toArray [(Value.int (64256 : Int) 2242), (Value.ref 101)]) 0) (List.toArray []))
def ob_102 : Params → Obj := fun P => (Obj.mk (Value.type "tuple") none (Data.seq (List.toArray [(Value.int (2 : Int) 2246), (Value.int (3 : Int) 2247)]) 0) (List.toArray []))
def ob_103 : Params → Obj := fun P => (Obj.mk (Value.type "tuple") none (Data.seq (List.toArray [(Value.int (64257 : Int) 2245), (Value.ref 103)]) 0) (List.toArray []))
def ob_104 : Params → Obj := fun P => (Obj.mk (Value.type "tuple") none (Data.seq (List.toArray [(Value.int (2 : Int) 2249), (Value.int (2 : Int) 2250), (Value.int (3 : Int) 2251)]) 0) (List.toArray []))
def ob_105 : Params → Obj := fun P => (Obj.mk (Value.type "tuple") none (Data.seq (List.toArray [(Value.int (64259 : Int) 2248), (Value.ref 105)]) 0) (List.toArray []))
def ob_106 : Params → Obj := fun P => (Obj.mk (Value.type "tuple") none (Data.seq (List.toArray [(Value.int (3 : Int) 2253)]) 0) (List.toArray []))
def ob_107 : Params → Obj := fun P => (Obj.mk (Value.type "tuple") none (Data.seq (List.toArray [(Value.int (105 : Int) 2252), (Value.ref 107)]) 0) (List.toArray []))
def ob_108 : Params → Obj := fun P => (Obj.mk (Value.type "tuple") none (Data.seq (List.toArray [(Value.int (3 : Int) 2255)]) 0) (List.toArray []))
def ob_109 : Params → Obj := fun P => (Obj.mk (Value.type "tuple") none (Data.seq (List.toArray [(Value.int (73 : Int) 2254), (Value.ref 109)]) 0) (List.toArray []))
def ob_110 : Params → Obj := fun P => (Obj.mk (Value.type "tuple") none (Data.seq (List.toArray [(Value.int (3 : Int) 2257)]) 0) (List.toArray []))
def ob_111 : Params → Obj := fun P => (Obj.mk (Value.type "tuple") none (Data.seq (List.toArray [(Value.int (8464 : Int) 2256), (Value.ref 111)]) 0) (List.toArray []))
def ob_112 : Params → Obj := fun P => (Obj.mk (Value.type "tuple") none (Data.seq (List.toArray [(Value.int (3 : Int) 2259)]) 0) (List.toArray []))
def ob_113 : Params → Obj := fun P => (Obj.mk (Value.type "tuple") none (Data.seq (List.toArray [(Value.int (119816 : Int) 2258), (Value.ref 113)]) 0) (List.toArray []))
def ob_114 : Params → Obj := fun P => (Obj.mk (Value.type "tuple") none (Data.seq (List.toArray [(Value.int (173 : Int) 2260), (Value.ref 115)]) 0) (List.toArray []))
def ob_115 : Params → Obj := fun P => (Obj.mk (Value.type "tuple") none (Data.seq (List.toArray [(Value.int (65039 : Int) 2261), (Value.ref 117)]) 0) (List.toArray []))
def ob_116 : Params → Obj := fun P => (Obj.mk (Value.type "tuple") none (Data.seq (List.toArray [(Value.ref 80), (Value.ref 82), (Value.ref 84), (Value.ref 86), (Value.ref 88), (Value.ref 90), (Value.ref 92), (Value.ref 94), (Value.ref 96), (Value.ref 98), (Value.ref 100), (Value.ref 102), (Value.ref 104), (Value.ref 106), (Value.ref 108), (Value.ref 110), (Value.ref 112), (Value.ref 114), (Value.ref 116), (Value.ref 118)]) 0) (List.toArray []))
def ob_119 : Params → Obj := fun P => (Obj.mk (Value.type "tuple") none (Data.seq (List.toArray [(Value.str (Str.ofString "text") 2266), (Value.str (Str.ofString "word") 2267), (Value.str (Str.ofString "folded") 2268), (Value.str (Str.ofString "owners") 2269), (Value.str (Str.ofString "k") 2270), (Value.str (Str.ofString "fold") 2271), (Value.str (Str.ofString "finds") 2272), (Value.str (Str.ofString "n") 2273), (Value.str (Str.ofString "p") 2274), (Value.str (Str.ofString "whole") 2275)]) 0) (List.toArray []))
def ob_120 : Params → Obj := fun P => (Obj.mk Value.none none (Data.func (FuncData.mk (Str.ofString "_law_read") (Str.ofString "_law_read") (fnArgs (stm 7)) (FuncBody.stmts (fnBody (stm 7))) (fnScope (stm 7)) 0 [] Value.none Value.none Value.none Value.none none Value.none Value.none 0)) (List.toArray []))
def ob_121 : Params → Obj := fun P => (Obj.mk (Value.type "code") none (Data.fields (List.toArray [(Value.str (Str.ofString "_law_read") 2263), (Value.str (Str.ofString "_law_read") 2264), (Value.str (Str.ofString "/claim/cut.py") 2265), (Value.int (13 : Int) 0), (Value.int (2 : Int) 0), (Value.int (0 : Int) 0), (Value.int (0 : Int) 0), (Value.int (3 : Int) 0), (Value.ref 120), (Value.bool Bool.true), (Value.int (181 : Int) 0), (Value.ref 121), Value.none, (Value.ref 122), (Value.ref 123), (Value.ref 124), (Value.int (2276 : Int) 0), (Value.int (13 : Int) 0), (Value.str (Str.ofString "/claim/cut.py") 2277)])) (List.toArray []))
def ob_122 : Params → Obj := fun P => (Obj.mk (Value.type "function") none (Data.func (FuncData.mk (Str.ofString "_law_read") (Str.ofString "_law_read") (fnArgs (stm 7)) (FuncBody.stmts (fnBody (stm 7))) (fnScope (stm 7)) 3 [] Value.none Value.none Value.none (Value.str (Str.ofString "law_dw5012_01") 2215) none (Value.ref 125) Value.none 0)) (List.toArray []))
def ob_125 : Params → Obj := fun P => (Obj.mk (Value.type "tuple") none (Data.seq (List.toArray [(Value.str (Str.ofString "word") 2282), (Value.str (Str.ofString "table") 2283), (Value.str (Str.ofString "k") 2284), (Value.str (Str.ofString "i") 2285)]) 0) (List.toArray []))
def ob_126 : Params → Obj := fun P => (Obj.mk Value.none none (Data.func (FuncData.mk (Str.ofString "_law_borders") (Str.ofString "_law_borders") (fnArgs (stm 8)) (FuncBody.stmts (fnBody (stm 8))) (fnScope (stm 8)) 0 [] Value.none Value.none Value.none Value.none none Value.none Value.none 0)) (List.toArray []))
def ob_127 : Params → Obj := fun P => (Obj.mk (Value.type "code") none (Data.fields (List.toArray [(Value.str (Str.ofString "_law_borders") 2279), (Value.str (Str.ofString "_law_borders") 2280), (Value.str (Str.ofString "/claim/cut.py") 2281), (Value.int (28 : Int) 0), (Value.int (1 : Int) 0), (Value.int (0 : Int) 0), (Value.int (0 : Int) 0), (Value.int (3 : Int) 0), (Value.ref 127), (Value.bool Bool.true), (Value.int (181 : Int) 0), (Value.ref 128), Value.none, (Value.ref 129), (Value.ref 130), (Value.ref 131), (Value.int (2286 : Int) 0), (Value.int (28 : Int) 0), (Value.str (Str.ofString "/claim/cut.py") 2287)])) (List.toArray []))
def ob_128 : Params → Obj := fun P => (Obj.mk (Value.type "function") none (Data.func (FuncData.mk (Str.ofString "_law_borders") (Str.ofString "_law_borders") (fnArgs (stm 8)) (FuncBody.stmts (fnBody (stm 8))) (fnScope (stm 8)) 3 [] Value.none Value.none Value.none (Value.str (Str.ofString "law_dw5012_01") 2215) none (Value.ref 132) Value.none 0)) (List.toArray []))
def ob_131 : Params → Obj := fun P => (Obj.mk (Value.type "tuple") none (Data.seq (List.toArray [(Value.str (Str.ofString "forms") 2292), (Value.str (Str.ofString "word") 2293), (Value.str (Str.ofString "table") 2294), (Value.str (Str.ofString "finds") 2295), (Value.str (Str.ofString "starts") 2296), (Value.str (Str.ofString "k") 2297), (Value.str (Str.ofString "place") 2298), (Value.str (Str.ofString "owner") 2299), (Value.str (Str.ofString "letters") 2300), (Value.str (Str.ofString "at") 2301), (Value.str (Str.ofString "first") 2302), (Value.str (Str.ofString "begins") 2303)]) 0) (List.toArray []))
def ob_132 : Params → Obj := fun P => (Obj.mk Value.none none (Data.func (FuncData.mk (Str.ofString "_law_automaton") (Str.ofString "_law_automaton") (fnArgs (stm 9)) (FuncBody.stmts (fnBody (stm 9))) (fnScope (stm 9)) 0 [] Value.none Value.none Value.none Value.none none Value.none Value.none 0)) (List.toArray []))
def ob_133 : Params → Obj := fun P => (Obj.mk (Value.type "code") none (Data.fields (List.toArray [(Value.str (Str.ofString "_law_automaton") 2289), (Value.str (Str.ofString "_law_automaton") 2290), (Value.str (Str.ofString "/claim/cut.py") 2291), (Value.int (38 : Int) 0), (Value.int (2 : Int) 0), (Value.int (0 : Int) 0), (Value.int (0 : Int) 0), (Value.int (3 : Int) 0), (Value.ref 134), (Value.bool Bool.true), (Value.int (181 : Int) 0), (Value.ref 135), Value.none, (Value.ref 136), (Value.ref 137), (Value.ref 138), (Value.int (2304 : Int) 0), (Value.int (38 : Int) 0), (Value.str (Str.ofString "/claim/cut.py") 2305)])) (List.toArray []))
def ob_134 : Params → Obj := fun P => (Obj.mk (Value.type "function") none (Data.func (FuncData.mk (Str.ofString "_law_automaton") (Str.ofString "_law_automaton") (fnArgs (stm 9)) (FuncBody.stmts (fnBody (stm 9))) (fnScope (stm 9)) 3 [] Value.none Value.none Value.none (Value.str (Str.ofString "law_dw5012_01") 2215) none (Value.ref 139) Value.none 0)) (List.toArray []))
def ob_135 : Params → Obj := fun P => (Obj.mk (Value.type "dict") none (Data.dict (List.toArray [(DictEntry.mk (PyData.keyHash P (Str.ofString "__name__")) (Value.str (Str.ofString "__name__") 165) (Value.str (Str.ofString "law_dw5012_01") 2215)), (DictEntry.mk (PyData.keyHash P (Str.ofString "__doc__")) (Value.str (Str.ofString "__doc__") 166) Value.none), (DictEntry.mk (PyData.keyHash P (Str.ofString "__package__")) (Value.str (Str.ofString "__package__") 167) Value.none), (DictEntry.mk (PyData.keyHash P (Str.ofString "__loader__")) (Value.str (Str.ofString "__loader__") 168) (Value.builtin "__main__.__loader__#opaque")), (DictEntry.mk (PyData.keyHash P (Str.ofString "__spec__")) (Value.str (Str.ofString "__spec__") 169) Value.none), (DictEntry.mk (PyData.keyHash P (Str.ofString "__annotations__")) (Value.str (Str.ofString "__annotations__") 170) (Value.ref 6)), (DictEntry.mk (PyData.keyHash P (Str.ofString "__builtins__")) (Value.str (Str.ofString "__builtins__") 171) (Value.ref 4)), (DictEntry.mk (PyData.keyHash P (Str.ofString "__file__")) (Value.str (Str.ofString "__file__") 173) (Value.str (Str.ofString "/claim/cut.py") 172)), (DictEntry.mk (PyData.keyHash P (Str.ofString "__cached__")) (Value.str (Str.ofString "__cached__") 174) Value.none), (DictEntry.mk (PyData.keyHash P (Str.ofString "b1_set")) (Value.str (Str.ofString "b1_set") 248) (Value.ref 22)), (DictEntry.mk (PyData.keyHash P (Str.ofString "in_table_b1")) (Value.str (Str.ofString "in_table_b1") 255) (Value.ref 32)), (DictEntry.mk (PyData.keyHash P (Str.ofString "b3_exceptions")) (Value.str (Str.ofString "b3_exceptions") 2206) (Value.ref 33)), (DictEntry.mk (PyData.keyHash P (Str.ofString "map_table_b3")) (Value.str (Str.ofString "map_table_b3") 2214) (Value.ref 78)), (DictEntry.mk (PyData.keyHash P (Str.ofString "_law_FORMS")) (Value.str (Str.ofString "_law_FORMS") 2262) (Value.ref 119)), (DictEntry.mk (PyData.keyHash P (Str.ofString "_law_read")) (Value.str (Str.ofString "_law_read") 2278) (Value.ref 126)), (DictEntry.mk (PyData.keyHash P (Str.ofString "_law_borders")) (Value.str (Str.ofString "_law_borders") 2288) (Value.ref 133)), (DictEntry.mk (PyData.keyHash P (Str.ofString "_law_automaton")) (Value.str (Str.ofString "_law_automaton") 2306) (Value.ref 140)), (DictEntry.mk (PyData.keyHash P (Str.ofString "law")) (Value.str (Str.ofString "law") 2312) (Value.ref 145))]) 18) (List.toArray []))
def ob_136 : Params → Obj := fun P => (Obj.mk Value.none none (Data.fields (List.toArray [(Value.int (3 : Int) 0), (Value.int (0 : Int) 0), (Value.ref 31), (Value.int (6 : Int) 0), (Value.int (0 : Int) 0), (Value.ref 77), (Value.int (13 : Int) 0), (Value.int (0 : Int) 0), (Value.ref 125), (Value.int (28 : Int) 0), (Value.int (0 : Int) 0), (Value.ref 132), (Value.int (38 : Int) 0), (Value.int (0 : Int) 0), (Value.ref 139), (Value.int (58 : Int) 0), (Value.int (0 : Int) 0), (Value.ref 144)])) (List.toArray []))
def ob_137 : Params → Obj := fun P => (Obj.mk Value.none none (Data.func (FuncData.mk (Str.ofString "law") (Str.ofString "law") (fnArgs (stm 10)) (FuncBody.stmts (fnBody (stm 10))) (fnScope (stm 10)) 0 [] Value.none Value.none Value.none Value.none none Value.none Value.none 0)) (List.toArray []))
def ob_138 : Params → Obj := fun P => (Obj.mk (Value.type "code") none (Data.fields (List.toArray [(Value.str (Str.ofString "law") 2307), (Value.str (Str.ofString "law") 2308), (Value.str (Str.ofString "/claim/cut.py") 2309), (Value.int (58 : Int) 0), (Value.int (1 : Int) 0), (Value.int (0 : Int) 0), (Value.int (0 : Int) 0), (Value.int (3 : Int) 0), (Value.ref 141), (Value.bool Bool.true), (Value.int (181 : Int) 0), (Value.ref 142), Value.none, Value.none, Value.none, (Value.ref 143), (Value.int (2310 : Int) 0), (Value.int (58 : Int) 0), (Value.str (Str.ofString "/claim/cut.py") 2311)])) (List.toArray []))
def ob_139 : Params → Obj := fun P => (Obj.mk (Value.type "function") none (Data.func (FuncData.mk (Str.ofString "law") (Str.ofString "law") (fnArgs (stm 10)) (FuncBody.stmts (fnBody (stm 10))) (fnScope (stm 10)) 3 [] Value.none Value.none Value.none (Value.str (Str.ofString "law_dw5012_01") 2215) none (Value.ref 144) Value.none 0)) (List.toArray []))
def theLife : Life := (Life.mk [] [] [] 0 [] [] Bool.false (List.toArray []) [] 0 Bool.false Bool.false Bool.false (0 : Int) [(2000 : Int), (10 : Int), (10 : Int)] Bool.false 0 Bool.true [] [] 0 Bool.false)
def theDrawn : Drawn := (Drawn.mk 0 0 0 0)
noncomputable def hp_pre : Params → Heap := fun P => Heap.mk (Array.mk [boot_o_0 P, boot_o_1 P, boot_o_2 P, boot_o_3 P, boot_o_4 P, boot_o_5 P, boot_o_6 P, boot_o_7 P, boot_o_8 P, boot_o_9 P, boot_o_10 P, boot_o_7 P, boot_o_8 P, ob_11 P, ob_12 P]) theLife
noncomputable def hp_p0 : Params → Heap := fun P => Heap.mk (Array.mk [boot_o_0 P, boot_o_1 P, boot_o_2 P, ob_13 P, boot_o_4 P, boot_o_5 P, boot_o_6 P, boot_o_7 P, boot_o_8 P, boot_o_9 P, boot_o_10 P, boot_o_7 P, boot_o_8 P, ob_11 P, ob_12 P]) theLife
noncomputable def hp_p1 : Params → Heap := fun P => Heap.mk (Array.mk [boot_o_0 P, boot_o_1 P, boot_o_2 P, ob_14 P, boot_o_4 P, boot_o_5 P, boot_o_6 P, boot_o_7 P, boot_o_8 P, boot_o_9 P, boot_o_10 P, boot_o_7 P, boot_o_8 P, ob_11 P, ob_12 P, ob_15 P, ob_16 P, ob_17 P, ob_18 P, boot_o_7 P, ob_19 P, ob_20 P, ob_21 P, ob_22 P, boot_o_7 P, ob_23 P]) theLife
noncomputable def hp_p2 : Params → Heap := fun P => Heap.mk (Array.mk [boot_o_0 P, boot_o_1 P, boot_o_2 P, ob_24 P, boot_o_4 P, boot_o_5 P, boot_o_6 P, boot_o_7 P, boot_o_8 P, boot_o_9 P, boot_o_10 P, boot_o_7 P, ob_25 P, ob_11 P, ob_12 P, ob_15 P, ob_16 P, ob_17 P, ob_18 P, boot_o_7 P, ob_19 P, ob_20 P, ob_21 P, ob_22 P, boot_o_7 P, ob_23 P, boot_o_7 P, boot_o_8 P, ob_26 P, boot_o_7 P, ob_27 P, ob_28 P, ob_29 P]) theLife
noncomputable def hp_mid : Params → Heap := fun P => Heap.mk (Array.mk [boot_o_0 P, boot_o_1 P, boot_o_2 P, ob_24 P, boot_o_4 P, boot_o_5 P, boot_o_6 P, boot_o_7 P, boot_o_8 P, boot_o_9 P, boot_o_10 P, boot_o_7 P, ob_25 P, ob_11 P, ob_12 P, ob_15 P, ob_16 P, ob_17 P, ob_18 P, boot_o_7 P, ob_19 P, ob_20 P, ob_21 P, ob_22 P, boot_o_7 P, ob_23 P, boot_o_7 P, boot_o_8 P, ob_26 P, boot_o_7 P, ob_27 P, ob_28 P, ob_29 P, b3Obj, subObj 0, subObj 1, subObj 2, subObj 3, subObj 4, subObj 5, subObj 6, subObj 7, subObj 8, subObj 9, subObj 10, subObj 11, subObj 12, subObj 13, subObj 14, subObj 15, subObj 16, subObj 17, subObj 18, subObj 19, subObj 20, subObj 21, subObj 22, subObj 23, subObj 24, subObj 25, subObj 26, subObj 27, subObj 28, subObj 29, subObj 30, subObj 31, subObj 32, subObj 33, subObj 34, subObj 35, subObj 36, subObj 37]) theLife
noncomputable def objs_p2 : Params → List Obj := fun P => [boot_o_0 P, boot_o_1 P, boot_o_2 P, ob_24 P, boot_o_4 P, boot_o_5 P, boot_o_6 P, boot_o_7 P, boot_o_8 P, boot_o_9 P, boot_o_10 P, boot_o_7 P, ob_25 P, ob_11 P, ob_12 P, ob_15 P, ob_16 P, ob_17 P, ob_18 P, boot_o_7 P, ob_19 P, ob_20 P, ob_21 P, ob_22 P, boot_o_7 P, ob_23 P, boot_o_7 P, boot_o_8 P, ob_26 P, boot_o_7 P, ob_27 P, ob_28 P, ob_29 P]
noncomputable def hp_p3 : Params → Heap := fun P => Heap.mk (Array.mk [boot_o_0 P, boot_o_1 P, boot_o_2 P, ob_30 P, boot_o_4 P, boot_o_5 P, boot_o_6 P, boot_o_7 P, boot_o_8 P, boot_o_9 P, boot_o_10 P, boot_o_7 P, ob_25 P, ob_11 P, ob_12 P, ob_15 P, ob_16 P, ob_17 P, ob_18 P, boot_o_7 P, ob_19 P, ob_20 P, ob_21 P, ob_22 P, boot_o_7 P, ob_23 P, boot_o_7 P, boot_o_8 P, ob_26 P, boot_o_7 P, ob_27 P, ob_28 P, ob_29 P, b3Obj, subObj 0, subObj 1, subObj 2, subObj 3, subObj 4, subObj 5, subObj 6, subObj 7, subObj 8, subObj 9, subObj 10, subObj 11, subObj 12, subObj 13, subObj 14, subObj 15, subObj 16, subObj 17, subObj 18, subObj 19, subObj 20, subObj 21, subObj 22, subObj 23, subObj 24, subObj 25, subObj 26, subObj 27, subObj 28, subObj 29, subObj 30, subObj 31, subObj 32, subObj 33, subObj 34, subObj 35, subObj 36, subObj 37]) theLife
noncomputable def hp_fin : Params → Heap := fun P => Heap.mk (Array.mk [boot_o_0 P, boot_o_1 P, boot_o_2 P, ob_135 P, boot_o_4 P, boot_o_5 P, boot_o_6 P, boot_o_7 P, boot_o_8 P, boot_o_9 P, boot_o_10 P, boot_o_7 P, ob_136 P, ob_11 P, ob_12 P, ob_15 P, ob_16 P, ob_17 P, ob_18 P, boot_o_7 P, ob_19 P, ob_20 P, ob_21 P, ob_22 P, boot_o_7 P, ob_23 P, boot_o_7 P, boot_o_8 P, ob_26 P, boot_o_7 P, ob_27 P, ob_28 P, ob_29 P, b3Obj, subObj 0, subObj 1, subObj 2, subObj 3, subObj 4, subObj 5, subObj 6, subObj 7, subObj 8, subObj 9, subObj 10, subObj 11, subObj 12, subObj 13, subObj 14, subObj 15, subObj 16, subObj 17, subObj 18, subObj 19, subObj 20, subObj 21, subObj 22, subObj 23, subObj 24, subObj 25, subObj 26, subObj 27, subObj 28, subObj 29, subObj 30, subObj 31, subObj 32, subObj 33, subObj 34, subObj 35, subObj 36, subObj 37, boot_o_7 P, boot_o_8 P, ob_72 P, boot_o_7 P, ob_73 P, ob_74 P, ob_75 P, ob_78 P, ob_79 P, ob_80 P, ob_81 P, ob_82 P, ob_83 P, ob_84 P, ob_85 P, ob_86 P, ob_87 P, ob_88 P, ob_89 P, ob_90 P, ob_91 P, ob_92 P, ob_93 P, ob_94 P, ob_95 P, ob_96 P, ob_97 P, ob_98 P, ob_99 P, ob_100 P, ob_101 P, ob_102 P, ob_103 P, ob_104 P, ob_105 P, ob_106 P, ob_107 P, ob_108 P, ob_109 P, ob_110 P, ob_111 P, ob_112 P, ob_113 P, boot_o_7 P, ob_114 P, boot_o_7 P, ob_115 P, ob_116 P, boot_o_7 P, boot_o_8 P, ob_119 P, boot_o_7 P, ob_120 P, ob_121 P, ob_122 P, boot_o_7 P, boot_o_8 P, ob_125 P, boot_o_7 P, ob_126 P, ob_127 P, ob_128 P, boot_o_7 P, boot_o_8 P, ob_131 P, boot_o_7 P, ob_132 P, ob_133 P, ob_134 P, boot_o_7 P, boot_o_8 P, ob_137 P, ob_138 P, ob_139 P]) theLife
end Mine
end

section
open PySem PySem.W PyProof.Rows PySem.Calls
set_option maxRecDepth 100000
set_option maxHeartbeats 8000000
namespace Mine
def envE : Env := { scope := pw.main.scope, locals := mainNs, globals := mainNs, cells := [], code := .ref 13, frame := some 14 }
def cE : Code := .body (behindTheImports pw) envE
theorem t_pre : ∀ w : World, (fun os => topGo treeTable pw w (nat_lit 11) (some (.ref 6)) (nat_lit 12) ⟨boot_heap w.params, Array.mk [], boot_drawn, boot_toks, os⟩ (topStub pw)) = fun os => some (⟨hp_pre w.params, Array.mk [], theDrawn, (nat_lit 187), os⟩, ⟨denote treeTable cE, cE, ⟨0, 0, 0, 0⟩, [topFrame ⟨0, 0, 0, 0⟩]⟩) := fun _ => by kernel_rfl
theorem t_block : ∀ w : World, (fun os => segRun treeTable pw w (nat_lit 11) (some (.ref 6)) 1 (nat_lit 1) ⟨hp_pre w.params, Array.mk [], theDrawn, (nat_lit 187), os⟩ (blockOf (behindTheImports pw) envE cE ⟨0, 0, 0, 0⟩ [topFrame ⟨0, 0, 0, 0⟩])) = fun os => some (.next, ⟨hp_pre w.params, Array.mk [], theDrawn, (nat_lit 187), os⟩, cE, ⟨0, 0, 0, 0⟩) := fun _ => by kernel_rfl
end Mine
end

section
open PySem PySem.W PyProof.Rows PySem.Calls
set_option maxRecDepth 100000
set_option maxHeartbeats 8000000
namespace Mine
def grpC : List Stmt := [stm 4, stm 5, stm 6, stm 7, stm 8, stm 9, stm 10]
theorem t_0 : ∀ w : World, (fun os => segRun treeTable pw w (nat_lit 11) (some (.ref 6)) 1 (nat_lit 20) ⟨hp_pre w.params, Array.mk [], theDrawn, (nat_lit 187), os⟩ (piecesOf [stm 0] envE cE ⟨0, 0, 0, 0⟩ [topFrame ⟨0, 0, 0, 0⟩])) = fun os => some (.next, ⟨hp_p0 w.params, Array.mk [], theDrawn, (nat_lit 189), os⟩, cE, ⟨1, 0, 1, 8⟩) := fun _ => by kernel_rfl
def PA (w : World) : Prop := (fun os => segRun treeTable pw w (nat_lit 11) (some (.ref 6)) 1 (nat_lit 1010) ⟨hp_p0 w.params, Array.mk [], theDrawn, (nat_lit 189), os⟩ (piecesOf [stm 1] envE cE ⟨1, 0, 1, 8⟩ [topFrame ⟨0, 0, 0, 0⟩])) = fun os => some (.next, ⟨hp_p1 w.params, Array.mk [], theDrawn, (nat_lit 249), os⟩, cE, ⟨2, 0, 2, 6⟩)
theorem t_A00 : ∀ w : World, PA ((w.withFollow "set-order" false).withFollow "special-get-raises" false) := fun _ => by unfold PA; rw [PySem.W.Fast.te14374325043358763698, PySem.W.Fast.te14364793385576792824]; kernel_rfl
theorem t_A01 : ∀ w : World, PA ((w.withFollow "set-order" false).withFollow "special-get-raises" true) := fun _ => by unfold PA; rw [PySem.W.Fast.te14374325043358763698, PySem.W.Fast.te14364793385576792824]; kernel_rfl
theorem t_A10 : ∀ w : World, PA ((w.withFollow "set-order" true).withFollow "special-get-raises" false) := fun _ => by unfold PA; rw [PySem.W.Fast.te14374325043358763698, PySem.W.Fast.te14364793385576792824]; kernel_rfl
theorem t_A11 : ∀ w : World, PA ((w.withFollow "set-order" true).withFollow "special-get-raises" true) := fun _ => by unfold PA; rw [PySem.W.Fast.te14374325043358763698, PySem.W.Fast.te14364793385576792824]; kernel_rfl
theorem t_1 : ∀ w : World, PA w := byRow2 "special-get-raises" (byRow2 "set-order" (P := fun w => PA (w.withFollow "special-get-raises" false)) t_A00 t_A10) (byRow2 "set-order" (P := fun w => PA (w.withFollow "special-get-raises" true)) t_A01 t_A11)
theorem t_2 : ∀ w : World, (fun os => segRun treeTable pw w (nat_lit 11) (some (.ref 6)) 1 (nat_lit 40) ⟨hp_p1 w.params, Array.mk [], theDrawn, (nat_lit 249), os⟩ (piecesOf [stm 2] envE cE ⟨2, 0, 2, 6⟩ [topFrame ⟨0, 0, 0, 0⟩])) = fun os => some (.next, ⟨hp_p2 w.params, Array.mk [], theDrawn, (nat_lit 256), os⟩, cE, ⟨3, 0, 4, 30⟩) := fun _ => by kernel_rfl
theorem t_C : ∀ w : World, (fun os => segRun treeTable pw w (nat_lit 11) (some (.ref 6)) 1 (nat_lit 320) ⟨hp_p3 w.params, Array.mk [], theDrawn, (nat_lit 2207), os⟩ (piecesOf grpC envE cE ⟨5, 0, 5, 13⟩ [topFrame ⟨0, 0, 0, 0⟩])) = fun os => some (.next, ⟨hp_fin w.params, Array.mk [], theDrawn, (nat_lit 2313), os⟩, cE, ⟨58, 0, 73, 66⟩) := fun _ => by kernel_rfl
theorem t_fin : ∀ w : World, (fun os => topRun treeTable pw w (nat_lit 11) (some (.ref 6)) (nat_lit 2) ⟨hp_fin w.params, Array.mk [], theDrawn, (nat_lit 2313), os⟩ ⟨doneF .next, cE, ⟨58, 0, 73, 66⟩, [topFrame ⟨0, 0, 0, 0⟩]⟩) = fun os => some ⟨hp_fin w.params, Array.mk [], theDrawn, (nat_lit 2313), os⟩ := fun _ => by kernel_rfl
theorem body_eq : behindTheImports pw = [stm 0] ++ ([stm 1] ++ ([stm 2] ++ (stm 3 :: (grpC ++ [])))) := by kernel_rfl
end Mine
end

section
open PySem PySem.W PyProof.Rows PySem.Calls
set_option maxRecDepth 100000
set_option maxHeartbeats 8000000
namespace Mine
abbrev goesTo (w : World) (N : Nat) (s : Shared) (t : Thread) (r : Shared) : Prop := topRun treeTable pw w (nat_lit 11) (some (.ref 6)) N s t = some r
abbrev frm : List Frame := [topFrame ⟨0, 0, 0, 0⟩]
/-- a term of the top that runs through: at most k steps, from one state to another, whatever is behind it -/
def Ev {α : Type} (w : World) (k : Nat) (x : Sem α) (s : Shared) (p : Pos) (a : α) (s' : Shared) (p' : Pos) : Prop :=
  ∀ (K : α → Sem Fin) (H : Value → Sem Fin) (gd : Bool → Bool) (lv : List Value → List Value) (N : Nat) (r : Shared), goesTo w N s' ⟨K a, cE, p', frm⟩ r → goesTo w (N + k) s ⟨x.wrap K H gd lv, cE, p, frm⟩ r
section
variable {α β : Type} {w : World} {s s₁ s₂ : Shared} {p p₁ p₂ : Pos}
theorem Ev_pure {a : α} : Ev w 0 (pure a) s p a s p := fun _ _ _ _ _ _ h => h
theorem Ev_bind {x : Sem α} {f : α → Sem β} {a : α} {b : β} {k₁ k₂ : Nat} (h₁ : Ev w k₁ x s p a s₁ p₁) (h₂ : Ev w k₂ (f a) s₁ p₁ b s₂ p₂) : Ev w (k₂ + k₁) (x >>= f) s p b s₂ p₂ := fun K H gd lv N r h => by
  rw [Sem.bind_eq_wrap', Sem.wrap_wrap, ← Nat.add_assoc]
  exact h₁ _ _ _ _ _ _ (h₂ K H gd lv N r h)
theorem Ev_wrap {x : Sem α} {H' : Value → Sem α} {gd' lv'} {a : α} {k : Nat} (h : Ev w k x s p a s₁ p₁) : Ev w k (x.wrap .pure H' gd' lv') s p a s₁ p₁ := fun K H gd lv N r hr => by
  rw [Sem.wrap_wrap]
  exact h _ _ _ _ _ _ hr
theorem Ev_hold {x : Sem α} {vs : List Value} {a : α} {k : Nat} (h : Ev w k x s p a s₁ p₁) : Ev w k (holding vs x) s p a s₁ p₁ := by
  unfold holding
  split
  · exact h
  · rw [Sem.keep_eq_wrap]; exact Ev_wrap h
theorem Ev_onRaise {x : Sem α} {f : Value → Sem Unit} {a : α} {k : Nat} (h : Ev w k x s p a s₁ p₁) : Ev w k (x.onRaise f) s p a s₁ p₁ := by
  rw [Sem.onRaise_eq_wrap]; exact Ev_wrap h
theorem Ev_mono {x : Sem α} {a : α} {k k' : Nat} (h : Ev w k x s p a s₁ p₁) (hk : k ≤ k') : Ev w k' x s p a s₁ p₁ := fun K H gd lv N r hr => by
  have := topRun_mono (k' - k) _ _ _ _ (h K H gd lv N r hr)
  rw [show N + k + (k' - k) = N + k' by omega] at this
  exact this
theorem Ev_load {a : Addr} {part : Option Value} {o : Obj} (h : s.heap.get? a = some o) : Ev w 1 (loadPart a part) s p o s p := fun K H gd lv N r hr => by
  show topRun _ _ _ _ _ (N + 1) _ _ = _
  unfold topRun
  obtain ⟨heap, gens, drawn, toks, os⟩ := s
  have h : heap.get? a = some o := h
  simp only [loadPart, Sem.wrap, through, stepOk, step, h]
  exact hr
theorem Ev_update {a : Addr} {part : Option Value} {f : Obj → Obj} {o : Obj} (h : s.heap.get? a = some o) (ha : Nat.ble (nat_lit 11) a = true) : Ev w 1 (updatePart a part f) s p () { s with heap := s.heap.update a f } p := fun K H gd lv N r hr => by
  show topRun _ _ _ _ _ (N + 1) _ _ = _
  unfold topRun
  obtain ⟨heap, gens, drawn, toks, os⟩ := s
  have h : heap.get? a = some o := h
  have hc : stepOk (nat_lit 11) (some (.ref 6)) ⟨(updatePart a part f).wrap K H gd lv, cE, p, frm⟩ = true := by
    simp only [updatePart, Sem.wrap, stepOk]
    rw [ha]
    rfl
  simp only [updatePart, Sem.wrap] at hc
  simp only [updatePart, Sem.wrap, through, hc, step, h, Option.isSome_some, if_true]
  exact hr
theorem Ev_alloc {o : Obj} : Ev w 1 (alloc o) s p s.heap.objs.size { s with heap := s.heap.push o } p := fun K H gd lv N r hr => by
  obtain ⟨heap, gens, drawn, toks, os⟩ := s
  exact hr
theorem Ev_fresh : Ev w 1 fresh s p s.toks { s with toks := s.toks + 1 } p := fun K H gd lv N r hr => by
  obtain ⟨heap, gens, drawn, toks, os⟩ := s
  exact hr
theorem Ev_rule {t : String} : Ev w 1 (rule t) s p () s p := fun K H gd lv N r hr => by
  obtain ⟨heap, gens, drawn, toks, os⟩ := s
  exact hr
theorem Ev_at {p' : Pos} : Ev w 1 (standAt p') s p () s p' := fun K H gd lv N r hr => by
  obtain ⟨heap, gens, drawn, toks, os⟩ := s
  exact hr
end
end Mine
end

section
open PySem PySem.W PyProof.Rows PySem.Calls
set_option maxRecDepth 100000
set_option maxHeartbeats 8000000
namespace Mine
def HashRun (w : World) : Prop := ∀ (heap : Heap) (gens : Array GenState) (drawn : Drawn) (toks : Nat) (os : OsState) (p : Pos) (x : Int) (t : Tok) (K : Int → Sem Fin) (H : Value → Sem Fin) (gd : Bool → Bool) (lv : List Value → List Value) (N : Nat),
  topRun treeTable pw w (nat_lit 11) (some (.ref 6)) (N + 5) ⟨heap, gens, drawn, toks, os⟩ ⟨(pyHash (.int x t)).wrap K H gd lv, cE, p, frm⟩ = topRun treeTable pw w (nat_lit 11) (some (.ref 6)) N ⟨heap, gens, drawn, toks + 1, os⟩ ⟨(pyHashByItsType.reduced (rawHash x)).wrap K H gd lv, cE, p, frm⟩
theorem hash_f : ∀ w : World, HashRun (w.withFollow "special-get-raises" false) := fun _ _ _ _ _ _ _ _ _ _ _ _ _ _ => by kernel_rfl
theorem hash_t : ∀ w : World, HashRun (w.withFollow "special-get-raises" true) := fun _ _ _ _ _ _ _ _ _ _ _ _ _ _ => by kernel_rfl
theorem hash_run : ∀ w : World, HashRun w := byRow2 "special-get-raises" hash_f hash_t
theorem Ev_hash {w : World} {s : Shared} {p : Pos} {x : Int} {t : Tok} (hx : x = hashInt x) : Ev w 5 (pyHash (.int x t)) s p x { s with toks := s.toks + 1 } p := fun K H gd lv N r h => by
  obtain ⟨heap, gens, drawn, toks, os⟩ := s
  unfold goesTo
  rw [hash_run w]
  have hr := rawHash_range x
  unfold pyHashByItsType.reduced
  rw [if_pos (by rw [decide_eq_true hr.1, decide_eq_true hr.2]; rfl)]
  rw [show (if (rawHash x == -1) = true then -2 else rawHash x) = x from hx.symm]
  exact h
end Mine
end

section
open PySem PySem.W PyProof.Rows PySem.Calls
set_option maxRecDepth 100000
set_option maxHeartbeats 8000000
namespace Mine
def dObj (es : List DictEntry) (ep : Nat) : Obj := ⟨.type "dict", none, .dict es.toArray ep, #[]⟩
def hpx (l : List Obj) (o : Obj) (r : List Obj) : Heap := ⟨(l ++ o :: r).toArray, theLife⟩
theorem hpx_get {l r : List Obj} {es : List DictEntry} {ep : Nat} : (hpx l (dObj es ep) r).get? l.length = some (dObj es ep) := by
  unfold hpx Heap.get?
  have e : (l ++ dObj es ep :: r).toArray[l.length]? = some (dObj es ep) := by
    rw [List.getElem?_toArray, List.getElem?_append_right (Nat.le_refl _), Nat.sub_self]; rfl
  dsimp only
  rw [e]
  rfl
theorem hpx_update {l r : List Obj} {o : Obj} {f : Obj → Obj} : (hpx l o r).update l.length f = hpx l (f o) r := by
  unfold hpx Heap.update
  dsimp only
  congr 1
  apply Array.toList_inj.mp
  rw [Array.toList_modify]
  apply List.ext_getElem?
  intro i
  rw [List.getElem?_modify]
  by_cases h : l.length = i
  · subst h
    simp
  · have e : (fun a => if l.length = i then f a else a) = (id : Obj → Obj) := by funext a; rw [if_neg h]; rfl
    rw [e]
    by_cases hi : i < l.length
    · simp [List.getElem?_append_left hi]
    · have hk : i - l.length = (i - l.length - 1) + 1 := by omega
      simp only [List.getElem?_append_right (Nat.le_of_not_lt hi)]
      rw [hk]
      simp
theorem hpx_push {l r : List Obj} {o x : Obj} : (hpx l o r).push x = hpx l o (r ++ [x]) := by
  unfold hpx Heap.push
  dsimp only
  congr 1
  simp
theorem hpx_move {l r : List Obj} {o x : Obj} {r' : List Obj} : hpx l o (r ++ x :: r') = hpx (l ++ o :: r) x r' := by
  unfold hpx
  simp
theorem hpx_size {l r : List Obj} {o : Obj} : (hpx l o r).objs.size = l.length + 1 + r.length := by
  unfold hpx
  simp
  omega
section
variable {w : World} {p : Pos} {g : Array GenState} {dr : Drawn} {tk : Nat} {os : OsState} {l r : List Obj} {es : List DictEntry} {ep : Nat}
theorem Ev_entries {part : Option Value} : Ev w 1 (dictEntries l.length part) ⟨hpx l (dObj es ep) r, g, dr, tk, os⟩ p es.toArray ⟨hpx l (dObj es ep) r, g, dr, tk, os⟩ p :=
  Ev_bind (k₂ := 0) (Ev_load hpx_get) Ev_pure
theorem Ev_epoch {part : Option Value} : Ev w 1 (dictEpoch l.length part) ⟨hpx l (dObj es ep) r, g, dr, tk, os⟩ p ep ⟨hpx l (dObj es ep) r, g, dr, tk, os⟩ p :=
  Ev_bind (k₂ := 0) (Ev_load hpx_get) Ev_pure
theorem no_places {x : Int} (hnew : ∀ e ∈ es, e.hash ≠ x) : placesWithHash es.toArray.size (fun i => es.toArray[i]?.map (·.hash)) x = [] := by
  unfold placesWithHash
  rw [List.filter_eq_nil_iff]
  intro i hi
  dsimp only
  rw [List.getElem?_toArray]
  cases h : es[i]? with
  | none => simp
  | some e => simpa using hnew e (List.mem_of_getElem? h)
theorem Ev_find {x : Int} {t : Tok} (hnew : ∀ e ∈ es, e.hash ≠ x) : Ev w 1 (dictFind l.length (.int x t) x) ⟨hpx l (dObj es ep) r, g, dr, tk, os⟩ p none ⟨hpx l (dObj es ep) r, g, dr, tk, os⟩ p := by
  unfold dictFind
  refine Ev_hold (Ev_bind (k₂ := 0) Ev_entries ?_)
  dsimp only
  rw [no_places hnew]
  exact Ev_pure
theorem Ev_put {x : Int} {t : Tok} {v : Value} {h : Int} {part : Option Value} (hl : Nat.ble (nat_lit 11) l.length = true) (hz : es.length ≤ 700) : Ev w 3 (updateDictKeys l.length (fun a => a.push (DictEntry.mk h (.int x t) v)) part) ⟨hpx l (dObj es ep) r, g, dr, tk, os⟩ p () ⟨hpx l (dObj (es ++ [⟨h, .int x t, v⟩]) (ep + 1)) r, g, dr, tk, os⟩ p := by
  unfold updateDictKeys
  refine Ev_bind (k₂ := 2) (Ev_load hpx_get) ?_
  show Ev w 2 (updatePart _ _ _ >>= fun _ => lookBehind _ _) _ _ _ _ _
  refine Ev_bind (k₂ := 1) (Ev_update hpx_get hl) ?_
  dsimp only
  rw [hpx_update]
  have e : Obj.mapDictKeys (fun a => a.push (DictEntry.mk h (.int x t) v)) (dObj es ep) = dObj (es ++ [⟨h, .int x t, v⟩]) (ep + 1) := by
    simp [dObj, Obj.mapDictKeys]
  rw [e]
  unfold lookBehind
  refine Ev_bind (k₂ := 0) (Ev_load hpx_get) ?_
  have e2 : (dObj (es ++ [⟨h, .int x t, v⟩]) (ep + 1)).data.pastItsLine = none := by
    show (if (es ++ [DictEntry.mk h (Value.int x t) v]).toArray.size > sizeLine + 1 then _ else _) = _
    rw [if_neg]
    rw [List.size_toArray, List.length_append, List.length_singleton]
    have : 1000 ≤ sizeLine := Nat.le_of_ble_eq_true rfl
    omega
  rw [e2]
  exact Ev_pure
theorem Ev_setNew {x : Int} {t : Tok} {v : Value} (hx : x = hashInt x) (hnew : ∀ e ∈ es, e.hash ≠ x) (hl : Nat.ble (nat_lit 11) l.length = true) (hz : es.length ≤ 700) :
    Ev w 10 (dictSet l.length (.int x t) v) ⟨hpx l (dObj es ep) r, g, dr, tk, os⟩ p () ⟨hpx l (dObj (es ++ [⟨x, .int x t, v⟩]) (ep + 1)) r, g, dr, tk + 1, os⟩ p := by
  unfold dictSet
  refine Ev_hold (Ev_bind (k₂ := 5) (Ev_hash hx) ?_)
  unfold dictSetHashed
  refine Ev_hold (Ev_bind (k₂ := 4) (Ev_find hnew) ?_)
  exact Ev_bind (k₂ := 3) Ev_rule (Ev_put hl hz)
theorem Ev_dictPut {x : Int} {t : Tok} {v : Value} (hnew : ∀ e ∈ es, e.hash ≠ x) (hl : Nat.ble (nat_lit 11) l.length = true) (hz : es.length ≤ 700) :
    Ev w 4 (dictPut l.length x (.int x t) v) ⟨hpx l (dObj es ep) r, g, dr, tk, os⟩ p () ⟨hpx l (dObj (es ++ [⟨x, .int x t, v⟩]) (ep + 1)) r, g, dr, tk, os⟩ p := by
  unfold dictPut
  refine Ev_bind (k₂ := 3) (Ev_find hnew) ?_
  exact Ev_put hl hz
end
end Mine
end

section
open PySem PySem.W PyProof.Rows PySem.Calls
set_option maxRecDepth 100000
set_option maxHeartbeats 8000000
namespace Mine
theorem Ev_bind0 {α β : Type} {w : World} {s s₁ s₂ : Shared} {p p₁ p₂ : Pos} {x : Sem α} {f : α → Sem β} {a : α} {b : β} {k : Nat} (h₁ : Ev w k x s p a s₁ p₁) (h₂ : Ev w 0 (f a) s₁ p₁ b s₂ p₂) : Ev w k (x >>= f) s p b s₂ p₂ := Ev_mono (Ev_bind h₁ h₂) (by omega)
inductive BothI {α β : Type} (R : Nat → α → β → Prop) : Nat → List α → List β → Prop
  | nil {i : Nat} : BothI R i [] []
  | cons {i : Nat} {a : α} {b : β} {as : List α} {bs : List β} : R i a b → BothI R (i + 1) as bs → BothI R i (a :: as) (b :: bs)
theorem BothI.length {α β : Type} {R : Nat → α → β → Prop} {i : Nat} {as : List α} {bs : List β} (h : BothI R i as bs) : bs.length = as.length := by
  induction h with
  | nil => rfl
  | cons _ _ ih => simp [ih]
theorem Ev_for {w : World} {γ : Type} {f : γ → PUnit → Sem (ForInStep PUnit)} {c : Nat} {L₀ : List (Int × Str)} {R : Nat → Int × Str → γ → Prop} {σ : List (Int × Str) → Shared} {p : Pos}
    (hstep : ∀ done x rest it, L₀ = done ++ x :: rest → R done.length x it → Ev w c (f it ⟨⟩) (σ done) p (.yield ⟨⟩) (σ (done ++ [x])) p) :
    ∀ (rest : List (Int × Str)) (l : List γ) (done : List (Int × Str)), BothI R done.length rest l → L₀ = done ++ rest → Ev w (c * rest.length) (forIn l PUnit.unit f) (σ done) p PUnit.unit (σ (done ++ rest)) p
  | [], _, done, .nil, _ => by
    rw [List.forIn_nil, List.append_nil]
    exact Ev_pure
  | x :: rest, _, done, .cons (b := it) (bs := l) h hr, e => by
    rw [List.forIn_cons, List.length_cons, Nat.mul_succ]
    refine Ev_bind (hstep done x rest it e h) ?_
    have ih := Ev_for hstep rest l (done ++ [x]) (by rw [List.length_append]; exact hr) (by rw [e]; simp)
    rw [List.append_assoc] at ih
    exact ih
def entS (st : Nat) : Nat → List (Int × Str) → List DictEntry
  | _, [] => []
  | t, (k, v) :: r => ⟨k, .int k t, .str v (t + 1)⟩ :: entS st (t + st) r
theorem entS_snoc (st : Nat) (x : Int × Str) : ∀ (L : List (Int × Str)) (t : Nat), entS st t (L ++ [x]) = entS st t L ++ [⟨x.1, .int x.1 (t + st * L.length), .str x.2 (t + st * L.length + 1)⟩]
  | [], t => by simp [entS]
  | (k, v) :: r, t => by
    rw [List.cons_append, entS, entS, entS_snoc st x r (t + st), List.cons_append]
    have e : t + st + st * r.length = t + st * ((k, v) :: r).length := by rw [List.length_cons, Nat.mul_succ]; omega
    rw [e]
theorem entS_length (st : Nat) : ∀ (L : List (Int × Str)) (t : Nat), (entS st t L).length = L.length
  | [], _ => rfl
  | (k, v) :: r, t => by rw [entS, List.length_cons, entS_length st r, List.length_cons]
theorem entS_hash (st : Nat) : ∀ (L : List (Int × Str)) (t : Nat), ∀ e ∈ entS st t L, e.hash ∈ L.map (·.1)
  | [], _, _, h => nomatch h
  | (k, v) :: r, t, e, h => by
    rcases List.mem_cons.mp h with rfl | h
    · exact .head _
    · exact .tail _ (entS_hash st r _ e h)
theorem entS_new {st : Nat} {L done rest : List (Int × Str)} {x : Int × Str} {t : Nat} (hn : (L.map (·.1)).Nodup) (e : L = done ++ x :: rest) : ∀ d ∈ entS st t done, d.hash ≠ x.1 := fun d hd hx => by
  have h1 := entS_hash st done t d hd
  rw [e, List.map_append, List.nodup_append] at hn
  exact hn.2.2 d.hash h1 x.1 (by simp) hx
/-- one pair of the display -/
def ItemOk (w : World) (dp : Pos) (_ : Nat) (x : Int × Str) (it : Sem Value × Sem Value) : Prop :=
  ∀ s p, Ev w 1 it.1 s p (.int x.1 s.toks) { s with toks := s.toks + 1 } p ∧ Ev w 2 it.2 s p (.str x.2 s.toks) { s with toks := s.toks + 1 } dp
section
variable {w : World} {dp : Pos} {g : Array GenState} {dr : Drawn} {tk : Nat} {os : OsState}
theorem push_new {l : List Obj} : (⟨l.toArray, theLife⟩ : Heap).push { cls := .type "dict", data := .dict #[] } = hpx l (dObj [] 0) [] := by
  unfold hpx Heap.push dObj
  simp
theorem Ev_subLong {l : List Obj} {L : List (Int × Str)} {its : List (Sem Value × Sem Value)} (hl : Nat.ble (nat_lit 11) l.length = true) (h15 : 15 < L.length) (h700 : L.length ≤ 700) (hb : BothI (ItemOk w dp) 0 L its) (hn : (L.map (·.1)).Nodup) (hh : ∀ x ∈ L, x.1 = hashInt x.1) :
    Ev w (13 * L.length + 2) (subDict its) ⟨⟨l.toArray, theLife⟩, g, dr, tk, os⟩ dp l.length ⟨hpx l (dObj (entS 3 tk L) L.length) [], g, dr, tk + 3 * L.length, os⟩ dp := by
  unfold subDict
  refine Ev_bind (k₂ := 13 * L.length + 1) Ev_alloc ?_
  dsimp only
  rw [push_new, List.size_toArray]
  refine Ev_bind0 (a := ()) (Ev_hold ?_) Ev_pure
  rw [if_neg (show ¬ its.length ≤ 15 by rw [hb.length]; omega)]
  refine Ev_bind (a := ()) (k₂ := 13 * L.length) Ev_rule ?_
  refine Ev_bind0 (a := PUnit.unit) ?_ Ev_pure
  refine Ev_for (w := w) (c := 13) (L₀ := L) (R := ItemOk w dp) (p := dp) (σ := fun done => ⟨hpx l (dObj (entS 3 tk done) done.length) [], g, dr, tk + 3 * done.length, os⟩) ?_ L its [] hb rfl
  rintro done x rest it e hi
  have hx : x ∈ L := by rw [e]; simp
  have hz : (entS 3 tk done).length ≤ 700 := by
    rw [entS_length]
    have := congrArg List.length e
    rw [List.length_append] at this
    omega
  refine Ev_bind (k₂ := 12) (k₁ := 1) (hi _ _).1 ?_
  refine Ev_bind (k₂ := 10) (k₁ := 2) (Ev_hold (hi _ _).2) ?_
  refine Ev_bind (k₂ := 0) (k₁ := 10) (a := ()) (Ev_hold (Ev_setNew (hh x hx) (entS_new hn e) hl hz)) ?_
  rw [entS_snoc, List.length_append, List.length_singleton]
  dsimp only
  rw [show tk + 3 * (done.length + 1) = tk + 3 * done.length + 1 + 1 + 1 by omega]
  exact Ev_pure
end
end Mine
end

section
open PySem PySem.W PyProof.Rows PySem.Calls
set_option maxRecDepth 100000
set_option maxHeartbeats 8000000
namespace Mine
def valsOf : Nat → List (Int × Str) → List (Value × Value)
  | _, [] => []
  | t, (k, v) :: r => (.int k t, .str v (t + 1)) :: valsOf (t + 2) r
def ValAt (tk : Nat) (i : Nat) (x : Int × Str) (it : Value × Value) : Prop := it = (.int x.1 (tk + 2 * i), .str x.2 (tk + 2 * i + 1))
theorem vals_both (tk : Nat) : ∀ (L : List (Int × Str)) (i : Nat), BothI (ValAt tk) i L (valsOf (tk + 2 * i) L)
  | [], _ => .nil
  | (k, v) :: r, i => .cons rfl (by have := vals_both tk r (i + 1); rwa [show tk + 2 * (i + 1) = tk + 2 * i + 2 by omega] at this)
section
variable {w : World} {dp : Pos} {g : Array GenState} {dr : Drawn} {os : OsState}
theorem Ev_pairs {hp : Heap} : ∀ (L : List (Int × Str)) (its : List (Sem Value × Sem Value)) (i tk : Nat), BothI (ItemOk w dp) i L its → Ev w (3 * L.length) (evalPairs its) ⟨hp, g, dr, tk, os⟩ dp (valsOf tk L) ⟨hp, g, dr, tk + 2 * L.length, os⟩ dp
  | [], _, _, _, .nil => Ev_pure
  | (k, v) :: r, _, i, tk, .cons (b := it) (bs := its) h hr => by
    unfold evalPairs
    refine Ev_mono (k := 3 * r.length + 2 + 1) ?_ (by rw [List.length_cons]; omega)
    refine Ev_bind (h _ _).1 ?_
    refine Ev_bind (Ev_hold (h _ _).2) ?_
    dsimp only
    have ih := Ev_pairs (hp := hp) r its (i + 1) (tk + 1 + 1) hr
    rw [show tk + 1 + 1 + 2 * r.length = tk + 2 * ((k, v) :: r).length by rw [List.length_cons]; omega] at ih
    exact Ev_bind0 (Ev_hold ih) Ev_pure
theorem Ev_subShort {l : List Obj} {L : List (Int × Str)} {its : List (Sem Value × Sem Value)} {tk : Nat} (hl : Nat.ble (nat_lit 11) l.length = true) (h15 : L.length ≤ 15) (hb : BothI (ItemOk w dp) 0 L its) (hn : (L.map (·.1)).Nodup) (hh : ∀ x ∈ L, x.1 = hashInt x.1) :
    Ev w (13 * L.length + 2) (subDict its) ⟨⟨l.toArray, theLife⟩, g, dr, tk, os⟩ dp l.length ⟨hpx l (dObj (entS 2 tk L) L.length) [], g, dr, tk + 3 * L.length, os⟩ dp := by
  unfold subDict
  refine Ev_bind (k₂ := 13 * L.length + 1) Ev_alloc ?_
  dsimp only
  rw [push_new, List.size_toArray]
  refine Ev_bind0 (a := ()) (Ev_hold ?_) Ev_pure
  rw [if_pos (show its.length ≤ 15 by rw [hb.length]; omega)]
  refine Ev_mono (k := 10 * L.length + 3 * L.length) ?_ (by omega)
  refine Ev_bind (a := valsOf tk L) (Ev_pairs L its 0 tk hb) ?_
  refine Ev_hold (Ev_bind0 (a := PUnit.unit) ?_ Ev_pure)
  have key := Ev_for (w := w) (c := 10) (L₀ := L) (R := ValAt tk) (p := dp) (σ := fun done => ⟨hpx l (dObj (entS 2 tk done) done.length) [], g, dr, tk + 2 * L.length + done.length, os⟩)
    (f := fun x _ => do
      dictSet l.length x.1 x.2
      pure (ForInStep.yield PUnit.unit)) ?_ L (valsOf tk L) [] (vals_both tk L 0) rfl
  · rw [show tk + 3 * L.length = tk + 2 * L.length + L.length by omega]
    exact key
  · rintro done x rest it e rfl
    have hx : x ∈ L := by rw [e]; simp
    have hz : (entS 2 tk done).length ≤ 700 := by
      rw [entS_length]
      have := congrArg List.length e
      rw [List.length_append] at this
      omega
    refine Ev_bind0 (a := ()) (Ev_setNew (hh x hx) (entS_new hn e) hl hz) ?_
    rw [entS_snoc, List.length_append, List.length_singleton]
    exact Ev_pure

-- the merge
theorem Ev_rangeFrom {f : Nat → PUnit → Sem (ForInStep PUnit)} {c n : Nat} {σ : Nat → Shared} {p : Pos} (hstep : ∀ i, i < n → Ev w c (f i ⟨⟩) (σ i) p (.yield ⟨⟩) (σ (i + 1)) p) : ∀ (k i : Nat), i + k = n → Ev w (c * k) (forIn (List.range' i k) PUnit.unit f) (σ i) p PUnit.unit (σ n) p
  | 0, i, e => by
    rw [List.range'_zero, List.forIn_nil]
    obtain rfl : i = n := e
    exact Ev_pure
  | k + 1, i, e => by
    rw [List.range'_succ, List.forIn_cons, Nat.mul_succ]
    refine Ev_bind (hstep i (by omega)) ?_
    exact Ev_rangeFrom hstep k (i + 1) (by omega)
theorem Ev_range {f : Nat → PUnit → Sem (ForInStep PUnit)} {c n : Nat} {σ : Nat → Shared} {p : Pos} (hstep : ∀ i, i < n → Ev w c (f i ⟨⟩) (σ i) p (.yield ⟨⟩) (σ (i + 1)) p) : Ev w (c * n) (forIn (List.range n) PUnit.unit f) (σ 0) p PUnit.unit (σ n) p := by
  rw [List.range_eq_range']
  exact Ev_rangeFrom hstep n 0 (by omega)
theorem sub_dict : isSubtype (.type "dict") (.type "dict") = pure true := by kernel_rfl
theorem iter_dict : typeLookup (.type "dict") "__iter__" = pure (some (.builtin "dict.__iter__")) := by kernel_rfl
theorem beq_iter : (some (Value.builtin "dict.__iter__") == some (Value.builtin "dict.__iter__")) = true := by kernel_rfl
theorem Ev_subLoad {l r : List Obj} {m : Obj} {es : List DictEntry} {ep tk : Nat} {p : Pos} {part : Option Value} : Ev w 1 (loadPart (l.length + 1 + r.length) part) ⟨hpx l m (r ++ [dObj es ep]), g, dr, tk, os⟩ p (dObj es ep) ⟨hpx l m (r ++ [dObj es ep]), g, dr, tk, os⟩ p := by
  refine Ev_load ?_
  have e : l.length + 1 + r.length = (l ++ m :: r).length := by simp; omega
  dsimp only
  rw [hpx_move, e]
  exact hpx_get
theorem Ev_merge {l r : List Obj} {es es2 : List DictEntry} {ep ep2 tk : Nat} {p : Pos} (hl : Nat.ble (nat_lit 11) l.length = true) (hne : es ≠ []) (hz : es.length + es2.length ≤ 700)
    (hk : ∀ e ∈ es2, ∃ x t, e.hash = x ∧ e.key = .int x t) (hnew : ∀ (i : Nat) (e : DictEntry), es2[i]? = some e → ∀ d ∈ es ++ es2.take i, d.hash ≠ e.hash) :
    Ev w (6 * es2.length + 6) (mergeMapping l.length (.ref (l.length + 1 + r.length)) false) ⟨hpx l (dObj es ep) (r ++ [dObj es2 ep2]), g, dr, tk, os⟩ p () ⟨hpx l (dObj (es ++ es2) (ep + es2.length)) (r ++ [dObj es2 ep2]), g, dr, tk, os⟩ p := by
  unfold mergeMapping
  refine Ev_mono (k := 6 * es2.length + 1 + 1 + 1 + 2) ?_ (by omega)
  have hinst : Ev w 1 (isInstance (.ref (l.length + 1 + r.length)) (.type "dict")) ⟨hpx l (dObj es ep) (r ++ [dObj es2 ep2]), g, dr, tk, os⟩ p true ⟨hpx l (dObj es ep) (r ++ [dObj es2 ep2]), g, dr, tk, os⟩ p := by
    unfold isInstance
    refine Ev_bind0 (a := .type "dict") (Ev_bind0 Ev_subLoad Ev_pure) ?_
    rw [sub_dict]
    exact Ev_pure
  have hspec : Ev w 1 (specialOf (.ref (l.length + 1 + r.length)) "__iter__") ⟨hpx l (dObj es ep) (r ++ [dObj es2 ep2]), g, dr, tk, os⟩ p (some (.builtin "dict.__iter__")) ⟨hpx l (dObj es ep) (r ++ [dObj es2 ep2]), g, dr, tk, os⟩ p := by
    unfold specialOf
    refine Ev_bind0 (a := .type "dict") (Ev_bind0 Ev_subLoad Ev_pure) ?_
    rw [iter_dict]
    exact Ev_pure
  have hents : ∀ {part : Option Value} {es' : List DictEntry} {ep' : Nat}, Ev w 1 (dictEntries (l.length + 1 + r.length) part) ⟨hpx l (dObj es' ep') (r ++ [dObj es2 ep2]), g, dr, tk, os⟩ p es2.toArray ⟨hpx l (dObj es' ep') (r ++ [dObj es2 ep2]), g, dr, tk, os⟩ p :=
    Ev_bind0 Ev_subLoad Ev_pure
  have hepo : ∀ {part : Option Value} {es' : List DictEntry} {ep' : Nat}, Ev w 1 (dictEpoch (l.length + 1 + r.length) part) ⟨hpx l (dObj es' ep') (r ++ [dObj es2 ep2]), g, dr, tk, os⟩ p ep2 ⟨hpx l (dObj es' ep') (r ++ [dObj es2 ep2]), g, dr, tk, os⟩ p :=
    Ev_bind0 Ev_subLoad Ev_pure
  refine Ev_mono (k := 6 * es2.length + 1 + 1 + 1 + 1 + 1) ?_ (by omega)
  refine Ev_bind hinst ?_
  rw [if_pos rfl]
  refine Ev_bind hspec ?_
  rw [beq_iter]
  refine Ev_bind (a := true) (k₁ := 0) (k₂ := 6 * es2.length + 1 + 1 + 1) Ev_pure ?_
  dsimp only
  have hbig : 11 ≤ l.length := Nat.le_of_ble_eq_true hl
  rw [if_neg (show ¬ ((l.length + 1 + r.length == sysModules) = true) by rw [beq_iff_eq]; show ¬ (l.length + 1 + r.length = 1); omega)]
  refine Ev_bind (k₁ := 1) (k₂ := 6 * es2.length + 1 + 1) Ev_entries ?_
  rw [if_neg (show ¬ (es.toArray.isEmpty = true) by cases es with | nil => exact absurd rfl hne | cons _ _ => simp)]
  refine Ev_bind (k₁ := 1) (k₂ := 6 * es2.length + 1) hents ?_
  refine Ev_bind (k₁ := 1) (k₂ := 6 * es2.length) hepo ?_
  refine Ev_bind0 (a := PUnit.unit) ?_ Ev_pure
  rw [List.size_toArray]
  have key := Ev_range (w := w) (c := 6) (n := es2.length) (p := p) (σ := fun i => ⟨hpx l (dObj (es ++ es2.take i) (ep + i)) (r ++ [dObj es2 ep2]), g, dr, tk, os⟩) (f := fun i _ => do
      let es' ← dictEntries (l.length + 1 + r.length)
      match es'[i]? with
      | some e => do
        holding [e.key, e.val] (dictPut l.length e.hash e.key e.val)
        let ep' ← dictEpoch (l.length + 1 + r.length)
        if (ep' != ep2) = true then do
          unsupported "dict.changed-during-merge"
          pure (ForInStep.yield PUnit.unit)
        else pure (ForInStep.yield PUnit.unit)
      | _ => do
        unsupported "dict.changed-during-merge"
        pure (ForInStep.yield PUnit.unit)) ?_
  · rw [List.take_zero, List.append_nil, List.take_length] at key
    exact key
  · intro i hi
    have hei : es2[i]? = some es2[i] := List.getElem?_eq_getElem hi
    obtain ⟨x, t, hx, hkey⟩ := hk _ (List.getElem_mem hi)
    refine Ev_mono (k := 1 + 4 + 1) ?_ (by omega)
    refine Ev_bind hents ?_
    rw [List.getElem?_toArray, hei]
    dsimp only
    have hput := Ev_dictPut (w := w) (p := p) (g := g) (dr := dr) (tk := tk) (os := os) (l := l) (r := r ++ [dObj es2 ep2]) (es := es ++ es2.take i) (ep := ep + i) (x := x) (t := t) (v := es2[i].val) (by rw [← hx]; exact hnew i _ hei) hl (by rw [List.length_append, List.length_take]; omega)
    rw [hkey, hx]
    refine Ev_bind (a := ()) (Ev_hold hput) ?_
    have hent : es ++ es2.take i ++ [DictEntry.mk x (.int x t) es2[i].val] = es ++ es2.take (i + 1) := by
      rw [List.append_assoc, List.take_succ_eq_append_getElem hi]
      congr 2
      rw [← hx]
      have : es2[i] = DictEntry.mk es2[i].hash es2[i].key es2[i].val := rfl
      rw [this, hkey, hx]
    rw [hent]
    refine Ev_bind0 (a := ep2) hepo ?_
    rw [if_neg (by simp)]
    exact Ev_pure
end
end Mine
end

section
open PySem PySem.W PyProof.Rows PySem.Calls
set_option maxRecDepth 100000
set_option maxHeartbeats 8000000
namespace Mine
abbrev Itm : Type := Sem Value × Sem Value
abbrev Dst : Type := Option Addr × List Itm
abbrev someIt (x : Itm) : Option (Sem Value) × Sem Value := (some x.1, x.2)
structure IsDisp (w : World) (dp : Pos) (f : Option (Sem Value) × Sem Value → Dst → Sem (ForInStep Dst)) : Prop where
  add : ∀ (x : Itm) m run, run.length + 1 ≠ 17 → f (someIt x) (m, run) = pure (.yield (m, run ++ [x]))
  first : ∀ (x : Itm) run c s d s', run.length + 1 = 17 → Ev w c (subDict (run ++ [x])) s dp d s' dp → Ev w c (f (someIt x) (none, run)) s dp (.yield (some d, [])) s' dp
  next : ∀ (x : Itm) run c c' s d sub s' s'', run.length + 1 = 17 → Ev w c (subDict (run ++ [x])) s dp sub s' dp → Ev w c' (mergeMapping d (.ref sub) false) s' dp () s'' dp → Ev w (c' + c) (f (someIt x) (some d, run)) s dp (.yield (some d, [])) s'' dp
section
variable {w : World} {dp : Pos} {g : Array GenState} {dr : Drawn} {os : OsState} {f : Option (Sem Value) × Sem Value → Dst → Sem (ForInStep Dst)}
theorem Ev_chunk (D : IsDisp w dp f) {m m' : Option Addr} {more : List (Option (Sem Value) × Sem Value)} {c c' : Nat} {s s' s'' : Shared} {b : Dst} (whole : List Itm)
    (hfl : ∀ (x : Itm) run, run.length + 1 = 17 → run ++ [x] = whole → Ev w c (f (someIt x) (m, run)) s dp (.yield (m', [])) s' dp) (hmore : Ev w c' (forIn more (m', []) f) s' dp b s'' dp) :
    ∀ (chunk run : List Itm), run ++ chunk = whole → whole.length = 17 → chunk ≠ [] → Ev w (c' + c) (forIn (chunk.map someIt ++ more) (m, run) f) s dp b s'' dp
  | [], _, _, _, h => absurd rfl h
  | [x], run, e, hl, _ => by
    rw [List.map_cons, List.map_nil, List.cons_append, List.nil_append, List.forIn_cons]
    refine Ev_bind (hfl x run ?_ e) hmore
    rw [← hl, ← e, List.length_append, List.length_singleton]
  | x :: y :: rest, run, e, hl, _ => by
    rw [List.map_cons, List.cons_append, List.forIn_cons]
    have hne : run.length + 1 ≠ 17 := by
      rw [← hl, ← e, List.length_append, List.length_cons, List.length_cons]; omega
    rw [D.add x m run hne]
    have ih := Ev_chunk D whole hfl hmore (y :: rest) (run ++ [x]) (by rw [← e]; simp) hl (by simp)
    exact Ev_bind (k₁ := 0) (k₂ := c' + c) Ev_pure ih
theorem Ev_last (D : IsDisp w dp f) {m : Option Addr} {s : Shared} : ∀ (chunk run : List Itm), run.length + chunk.length < 17 → Ev w 0 (forIn (chunk.map someIt) (m, run) f) s dp (m, run ++ chunk) s dp
  | [], run, _ => by
    rw [List.map_nil, List.forIn_nil, List.append_nil]; exact Ev_pure
  | x :: rest, run, h => by
    rw [List.length_cons] at h
    rw [List.map_cons, List.forIn_cons, D.add x m run (by omega)]
    have ih := Ev_last D (m := m) (s := s) rest (run ++ [x]) (by rw [List.length_append, List.length_singleton]; omega)
    rw [List.append_assoc] at ih
    exact Ev_bind (k₁ := 0) (k₂ := 0) Ev_pure ih
end
theorem BothI.re {w : World} {dp : Pos} {L : List (Int × Str)} {its : List Itm} {i : Nat} (h : BothI (ItemOk w dp) i L its) : ∀ j, BothI (ItemOk w dp) j L its := by
  induction h with
  | nil => intro j; exact .nil
  | cons a _ ih => intro j; exact .cons a (ih _)
theorem BothI.split {w : World} {dp : Pos} : ∀ (A : List (Int × Str)) {B : List (Int × Str)} {its : List Itm}, BothI (ItemOk w dp) 0 (A ++ B) its → ∃ ia ib, its = ia ++ ib ∧ BothI (ItemOk w dp) 0 A ia ∧ BothI (ItemOk w dp) 0 B ib
  | [], B, its, h => ⟨[], its, rfl, .nil, h⟩
  | x :: A, B, _, .cons (b := b) hx h => by
    obtain ⟨ia, ib, e, h1, h2⟩ := BothI.split A (h.re 0)
    exact ⟨b :: ia, ib, by rw [e]; rfl, .cons hx (h1.re _), h2⟩
theorem entS_append (st : Nat) : ∀ (A B : List (Int × Str)) (t : Nat), entS st t (A ++ B) = entS st t A ++ entS st (t + st * A.length) B
  | [], B, t => by simp [entS]
  | (k, v) :: A, B, t => by
    rw [List.cons_append, entS, entS, entS_append st A B (t + st), List.cons_append]
    have e : t + st + st * A.length = t + st * ((k, v) :: A).length := by rw [List.length_cons, Nat.mul_succ]; omega
    rw [e]
def subsFrom : Nat → Nat → List (Int × Str) → List Obj
  | _, 0, _ => []
  | t, n + 1, L => dObj (entS 3 t (L.take 17)) 17 :: subsFrom (t + 51) n (L.drop 17)
theorem entS_ints (st : Nat) : ∀ (L : List (Int × Str)) (t : Nat), ∀ e ∈ entS st t L, ∃ x tt, e.hash = x ∧ e.key = .int x tt
  | [], _, _, h => nomatch h
  | (k, v) :: r, t, e, h => by
    rcases List.mem_cons.mp h with rfl | h
    · exact ⟨_, _, rfl, rfl⟩
    · exact entS_ints st r _ e h
theorem entS_get (st : Nat) : ∀ (L : List (Int × Str)) (t i : Nat) (e : DictEntry), (entS st t L)[i]? = some e → ∃ x, L[i]? = some x ∧ e.hash = x.1
  | [], _, _, _, h => by simp [entS] at h
  | (k, v) :: r, t, 0, e, h => by
    rw [entS] at h
    exact ⟨(k, v), rfl, by have := Option.some.inj h; rw [← this]⟩
  | (k, v) :: r, t, i + 1, e, h => by
    rw [entS] at h
    exact entS_get st r _ i e (by simpa using h)
theorem merge_new {st : Nat} {L done c rest : List (Int × Str)} {t : Nat} {es : List DictEntry} (hn : (L.map (·.1)).Nodup) (e : L = done ++ (c ++ rest)) (he : ∀ d ∈ es, d.hash ∈ done.map (·.1)) :
    ∀ (i : Nat) (x : DictEntry), (entS st t c)[i]? = some x → ∀ d ∈ es ++ (entS st t c).take i, d.hash ≠ x.hash := by
  intro i x hx d hd hh
  obtain ⟨y, hy, hxy⟩ := entS_get st c t i x hx
  have hi : i < c.length := (List.getElem?_eq_some_iff.mp hy).1
  have hy' : c[i] = y := (List.getElem?_eq_some_iff.mp hy).2
  have hsplit : c = c.take i ++ y :: c.drop (i + 1) := by
    rw [← hy', List.getElem_cons_drop, List.take_append_drop]
  have hmem : d.hash ∈ (done ++ c.take i).map (·.1) := by
    rw [List.map_append]
    rcases List.mem_append.mp hd with hd | hd
    · exact List.mem_append_left _ (he d hd)
    · refine List.mem_append_right _ ?_
      obtain ⟨j, hj⟩ := List.mem_iff_getElem?.mp hd
      have hji : j < i := by
        have := (List.getElem?_eq_some_iff.mp hj).1
        rw [List.length_take] at this; omega
      rw [List.getElem?_take_of_lt hji] at hj
      obtain ⟨z, hz, hdz⟩ := entS_get st c t j d hj
      rw [hdz]
      refine List.mem_map.mpr ⟨z, ?_, rfl⟩
      refine List.mem_of_getElem? (i := j) ?_
      rw [List.getElem?_take_of_lt hji]; exact hz
  have e2 : L = (done ++ c.take i) ++ y :: (c.drop (i + 1) ++ rest) := by
    rw [e, List.append_assoc]
    congr 1
    conv => lhs; rw [hsplit]
    simp
  rw [e2, List.map_append, List.nodup_append] at hn
  exact hn.2.2 d.hash hmem y.1 (by simp) (hh.trans hxy)
end Mine
end

section
open PySem PySem.W PyProof.Rows PySem.Calls
set_option maxRecDepth 100000
set_option maxHeartbeats 8000000
namespace Mine
section
variable {w : World} {dp : Pos} {g : Array GenState} {dr : Drawn} {os : OsState} {f : Option (Sem Value) × Sem Value → Dst → Sem (ForInStep Dst)}
theorem Ev_subAt {l subs : List Obj} {m : Obj} {tk : Nat} {L : List (Int × Str)} {its : List Itm} (hl : Nat.ble (nat_lit 11) l.length = true) (h15 : 15 < L.length) (h700 : L.length ≤ 700) (hb : BothI (ItemOk w dp) 0 L its) (hn : (L.map (·.1)).Nodup) (hh : ∀ x ∈ L, x.1 = hashInt x.1) :
    Ev w (13 * L.length + 2) (subDict its) ⟨hpx l m subs, g, dr, tk, os⟩ dp (l.length + 1 + subs.length) ⟨hpx l m (subs ++ [dObj (entS 3 tk L) L.length]), g, dr, tk + 3 * L.length, os⟩ dp := by
  have hl' : Nat.ble (nat_lit 11) (l ++ m :: subs).length = true := by
    have := Nat.le_of_ble_eq_true hl
    exact Nat.ble_eq_true_of_le (by rw [List.length_append]; omega)
  have := Ev_subLong (w := w) (dp := dp) (g := g) (dr := dr) (os := os) (tk := tk) (l := l ++ m :: subs) hl' h15 h700 hb hn hh
  rw [hpx_move, show l.length + 1 + subs.length = (l ++ m :: subs).length by simp; omega]
  exact this
theorem Ev_subAtS {l subs : List Obj} {m : Obj} {tk : Nat} {L : List (Int × Str)} {its : List Itm} (hl : Nat.ble (nat_lit 11) l.length = true) (h15 : L.length ≤ 15) (hb : BothI (ItemOk w dp) 0 L its) (hn : (L.map (·.1)).Nodup) (hh : ∀ x ∈ L, x.1 = hashInt x.1) :
    Ev w (13 * L.length + 2) (subDict its) ⟨hpx l m subs, g, dr, tk, os⟩ dp (l.length + 1 + subs.length) ⟨hpx l m (subs ++ [dObj (entS 2 tk L) L.length]), g, dr, tk + 3 * L.length, os⟩ dp := by
  have hl' : Nat.ble (nat_lit 11) (l ++ m :: subs).length = true := by
    have := Nat.le_of_ble_eq_true hl
    exact Nat.ble_eq_true_of_le (by rw [List.length_append]; omega)
  have := Ev_subShort (w := w) (dp := dp) (g := g) (dr := dr) (os := os) (tk := tk) (l := l ++ m :: subs) hl' h15 hb hn hh
  rw [hpx_move, show l.length + 1 + subs.length = (l ++ m :: subs).length by simp; omega]
  exact this
theorem nodup_mid {L A B C : List (Int × Str)} (hn : (L.map (·.1)).Nodup) (e : L = A ++ (B ++ C)) : (B.map (·.1)).Nodup := by
  rw [e, List.map_append, List.nodup_append, List.map_append, List.nodup_append] at hn
  exact hn.2.1.1
theorem Ev_rest (D : IsDisp w dp f) {L₀ : List (Int × Str)} {l : List Obj} {t0 : Nat} (hl : Nat.ble (nat_lit 11) l.length = true) (hn : (L₀.map (·.1)).Nodup) (hh : ∀ x ∈ L₀, x.1 = hashInt x.1) (h700 : L₀.length ≤ 700) :
    ∀ (n : Nat) (done rest : List (Int × Str)) (its : List Itm) (subs : List Obj), L₀ = done ++ rest → done ≠ [] → 17 * n ≤ rest.length → rest.length < 17 * n + 17 → BothI (ItemOk w dp) 0 rest its →
      ∃ last, BothI (ItemOk w dp) 0 (rest.drop (17 * n)) last ∧ Ev w (331 * n) (forIn (its.map someIt) (some l.length, []) f) ⟨hpx l (dObj (entS 3 t0 done) done.length) subs, g, dr, t0 + 3 * done.length, os⟩ dp (some l.length, last)
        ⟨hpx l (dObj (entS 3 t0 (done ++ rest.take (17 * n))) (done.length + 17 * n)) (subs ++ subsFrom (t0 + 3 * done.length) n rest), g, dr, t0 + 3 * (done.length + 17 * n), os⟩ dp
  | 0, done, rest, its, subs, e, hd, h1, h2, hb => by
    refine ⟨its, by simpa using hb, ?_⟩
    have := Ev_last D (m := some l.length) (s := ⟨hpx l (dObj (entS 3 t0 done) done.length) subs, g, dr, t0 + 3 * done.length, os⟩) its [] (by rw [hb.length]; simp; omega)
    simp only [Nat.mul_zero, List.take_zero, List.append_nil, subsFrom, Nat.add_zero]
    simpa using this
  | n + 1, done, rest, its, subs, e, hd, h1, h2, hb => by
    have hc : (rest.take 17).length = 17 := by rw [List.length_take]; omega
    have hr : rest = rest.take 17 ++ rest.drop 17 := (List.take_append_drop 17 rest).symm
    generalize hC : rest.take 17 = c at hc hr
    generalize hR : rest.drop 17 = r' at hr
    have hrl : rest.length = 17 + r'.length := by rw [hr, List.length_append, hc]
    rw [hr] at hb
    obtain ⟨ic, ir, rfl, hbc, hbr⟩ := BothI.split c hb
    have hlic : ic.length = 17 := by rw [hbc.length, hc]
    have e' : L₀ = done ++ (c ++ r') := by rw [e, hr]
    have hL : L₀.length = done.length + (17 + r'.length) := by rw [e', List.length_append, List.length_append, hc]
    obtain ⟨last, hlast, ih⟩ := Ev_rest D (t0 := t0) hl hn hh h700 n (done ++ c) r' ir (subs ++ [dObj (entS 3 (t0 + 3 * done.length) c) 17]) (by rw [e', List.append_assoc]) (by simp [hd]) (by omega) (by omega) hbr
    have hdrop : rest.drop (17 * (n + 1)) = r'.drop (17 * n) := by rw [← hR, List.drop_drop, show 17 + 17 * n = 17 * (n + 1) by omega]
    have htake : rest.take (17 * (n + 1)) = c ++ r'.take (17 * n) := by
      rw [hr, List.take_append, hc, List.take_of_length_le (by omega), show 17 * (n + 1) - 17 = 17 * n by omega]
    have hsubs : subsFrom (t0 + 3 * done.length) (n + 1) rest = dObj (entS 3 (t0 + 3 * done.length) c) 17 :: subsFrom (t0 + 3 * done.length + 51) n r' := by
      rw [subsFrom, hC, hR]
    refine ⟨last, by rw [hdrop]; exact hlast, ?_⟩
    rw [htake, hsubs, List.map_append, Nat.mul_succ]
    have hsub := Ev_subAt (w := w) (dp := dp) (g := g) (dr := dr) (os := os) (l := l) (subs := subs) (m := dObj (entS 3 t0 done) done.length) (tk := t0 + 3 * done.length) hl (by omega) (by omega) hbc (nodup_mid hn e') (fun x hx => hh x (by rw [e']; simp [hx]))
    rw [hc] at hsub
    have hmerge := Ev_merge (w := w) (g := g) (dr := dr) (os := os) (tk := t0 + 3 * done.length + 3 * 17) (p := dp) (l := l) (r := subs) (es := entS 3 t0 done) (es2 := entS 3 (t0 + 3 * done.length) c) (ep := done.length) (ep2 := 17) hl
      (by intro q; have := congrArg List.length q; rw [entS_length] at this; exact hd (List.length_eq_zero_iff.mp this)) (by rw [entS_length, entS_length]; omega) (entS_ints 3 c _) (merge_new hn e' (entS_hash 3 done t0))
    rw [entS_length, hc, ← entS_append] at hmerge
    have hA : (done ++ c).length = done.length + 17 := by rw [List.length_append, hc]
    rw [hA] at ih
    have hfl : ∀ (x : Itm) run, run.length + 1 = 17 → run ++ [x] = ic → Ev w 331 (f (someIt x) (some l.length, run)) ⟨hpx l (dObj (entS 3 t0 done) done.length) subs, g, dr, t0 + 3 * done.length, os⟩ dp (.yield (some l.length, []))
        ⟨hpx l (dObj (entS 3 t0 (done ++ c)) (done.length + 17)) (subs ++ [dObj (entS 3 (t0 + 3 * done.length) c) 17]), g, dr, t0 + 3 * done.length + 3 * 17, os⟩ dp := by
      intro x run hrun hw
      have := D.next x run _ _ _ _ _ _ _ hrun (by rw [hw]; exact hsub) hmerge
      exact Ev_mono this (by omega)
    refine Ev_chunk D (m' := some l.length) ic hfl ?_ ic [] rfl hlic (by intro q; rw [q] at hlic; simp at hlic)
    have e1 : t0 + 3 * done.length + 3 * 17 = t0 + 3 * (done.length + 17) := by omega
    have e3 : done.length + 17 + 17 * n = done.length + 17 * (n + 1) := by omega
    rw [e1]
    rw [e3, List.append_assoc, List.append_assoc] at ih
    exact ih
theorem Ev_dispGo {β : Type} {G : Dst → Sem β} {b : β} {k : Nat} {s2 : Shared} {L₀ : List (Int × Str)} {l : List Obj} {t0 n : Nat} {its : List Itm} (hl : Nat.ble (nat_lit 11) l.length = true) (hn : (L₀.map (·.1)).Nodup) (hh : ∀ x ∈ L₀, x.1 = hashInt x.1) (h700 : L₀.length ≤ 700)
    (h1 : 17 * n + 17 ≤ L₀.length) (h2 : L₀.length < 17 * n + 34) (hb : BothI (ItemOk w dp) 0 L₀ its) (D : IsDisp w dp f)
    (hG : ∀ last, BothI (ItemOk w dp) 0 (L₀.drop (17 + 17 * n)) last → Ev w k (G (some l.length, last)) ⟨hpx l (dObj (entS 3 t0 (L₀.take (17 + 17 * n))) (17 + 17 * n)) (subsFrom (t0 + 51) n (L₀.drop 17)), g, dr, t0 + 3 * (17 + 17 * n), os⟩ dp b s2 dp) :
    Ev w (k + (331 * n + 331)) (forIn (its.map someIt) (none, []) f >>= G) ⟨⟨l.toArray, theLife⟩, g, dr, t0, os⟩ dp b s2 dp := by
  have hc : (L₀.take 17).length = 17 := by rw [List.length_take]; omega
  have hr : L₀ = L₀.take 17 ++ L₀.drop 17 := (List.take_append_drop 17 L₀).symm
  have hdrop : L₀.drop (17 + 17 * n) = (L₀.drop 17).drop (17 * n) := by rw [List.drop_drop]
  have htake : L₀.take (17 + 17 * n) = L₀.take 17 ++ (L₀.drop 17).take (17 * n) := by rw [List.take_add]
  rw [hdrop, htake] at hG
  generalize L₀.take 17 = c at hc hr hG
  generalize L₀.drop 17 = r' at hr hG
  have hL : L₀.length = 17 + r'.length := by rw [hr, List.length_append, hc]
  have hb' : BothI (ItemOk w dp) 0 (c ++ r') its := by rw [← hr]; exact hb
  obtain ⟨ic, ir, rfl, hbc, hbr⟩ := BothI.split c hb'
  have hlic : ic.length = 17 := by rw [hbc.length, hc]
  obtain ⟨last, hlast, H⟩ := Ev_rest (g := g) (dr := dr) (os := os) D (l := l) (t0 := t0) hl hn hh h700 n c r' ir [] hr (by intro q; rw [q] at hc; simp at hc) (by omega) (by omega) hbr
  rw [hc] at H
  refine Ev_bind (a := (some l.length, last)) ?_ (hG last hlast)
  have hsub := Ev_subLong (w := w) (dp := dp) (g := g) (dr := dr) (os := os) (tk := t0) (l := l) hl (by omega) (by omega) hbc (nodup_mid (A := []) hn hr) (fun x hx => hh x (by rw [hr]; simp [hx]))
  rw [hc] at hsub
  have hfl : ∀ (x : Itm) run, run.length + 1 = 17 → run ++ [x] = ic → Ev w 331 (f (someIt x) (none, run)) ⟨⟨l.toArray, theLife⟩, g, dr, t0, os⟩ dp (.yield (some l.length, [])) ⟨hpx l (dObj (entS 3 t0 c) 17) [], g, dr, t0 + 3 * 17, os⟩ dp := by
    intro x run hrun hw
    have := D.first x run _ _ _ _ hrun (by rw [hw]; exact hsub)
    exact Ev_mono this (by omega)
  rw [List.map_append]
  exact Ev_chunk D (m' := some l.length) ic hfl H ic [] rfl hlic (by intro q; rw [q] at hlic; simp at hlic)
theorem Ev_display {L₀ : List (Int × Str)} {l : List Obj} {t0 n : Nat} {its : List Itm} (hl : Nat.ble (nat_lit 11) l.length = true) (hn : (L₀.map (·.1)).Nodup) (hh : ∀ x ∈ L₀, x.1 = hashInt x.1) (h700 : L₀.length ≤ 700)
    (h1 : 17 * n + 17 < L₀.length) (h2 : L₀.length ≤ 17 * n + 17 + 15) (hb : BothI (ItemOk w dp) 0 L₀ its) :
    Ev w (331 * n + 331 + 331) (dictDisplay (its.map someIt)) ⟨⟨l.toArray, theLife⟩, g, dr, t0, os⟩ dp (.ref l.length)
      ⟨hpx l (dObj (entS 3 t0 (L₀.take (17 + 17 * n)) ++ entS 2 (t0 + 3 * (17 + 17 * n)) (L₀.drop (17 + 17 * n))) (17 + 17 * n + (L₀.drop (17 + 17 * n)).length))
        (subsFrom (t0 + 51) n (L₀.drop 17) ++ [dObj (entS 2 (t0 + 3 * (17 + 17 * n)) (L₀.drop (17 + 17 * n))) (L₀.drop (17 + 17 * n)).length]), g, dr, t0 + 3 * (17 + 17 * n) + 3 * (L₀.drop (17 + 17 * n)).length, os⟩ dp := by
  unfold dictDisplay
  refine Ev_mono (k := 331 + (331 * n + 331)) ?_ (by omega)
  refine Ev_dispGo (L₀ := L₀) (l := l) (t0 := t0) (n := n) hl hn hh h700 (by omega) (by omega) hb ⟨?_, ?_, ?_⟩ ?_
  · intro x m run h
    dsimp only
    rw [if_neg (by rw [beq_iff_eq, List.length_append, List.length_singleton]; exact h)]
  · intro x run c s d s' h H
    dsimp only
    rw [if_pos (by rw [beq_iff_eq, List.length_append, List.length_singleton]; exact h), if_neg (by simp)]
    exact Ev_bind0 (Ev_bind0 H Ev_pure) Ev_pure
  · intro x run c c' s d sub s' s'' h H H'
    dsimp only
    rw [if_pos (by rw [beq_iff_eq, List.length_append, List.length_singleton]; exact h), if_neg (by simp)]
    exact Ev_bind0 (Ev_bind (Ev_hold H) (Ev_bind0 (Ev_onRaise (Ev_hold H')) Ev_pure)) Ev_pure
  · intro last hlast
    have hsp : L₀ = L₀.take (17 + 17 * n) ++ (L₀.drop (17 + 17 * n) ++ []) := by rw [List.append_nil]; exact (List.take_append_drop _ L₀).symm
    have htl : (L₀.take (17 + 17 * n)).length = 17 + 17 * n := by rw [List.length_take]; omega
    have hdl : (L₀.drop (17 + 17 * n)).length = L₀.length - (17 + 17 * n) := by rw [List.length_drop]
    generalize L₀.drop (17 + 17 * n) = z at hlast hsp hdl ⊢
    generalize L₀.take (17 + 17 * n) = y at hsp htl ⊢
    have hlz : last.length = z.length := hlast.length
    have hsub := Ev_subAtS (w := w) (dp := dp) (g := g) (dr := dr) (os := os) (l := l) (subs := subsFrom (t0 + 51) n (L₀.drop 17)) (m := dObj (entS 3 t0 y) (17 + 17 * n)) (tk := t0 + 3 * (17 + 17 * n)) hl (by omega) hlast (nodup_mid hn hsp) (fun x hx => hh x (by rw [hsp]; simp [hx]))
    have hmerge := Ev_merge (w := w) (g := g) (dr := dr) (os := os) (tk := t0 + 3 * (17 + 17 * n) + 3 * z.length) (p := dp) (l := l) (r := subsFrom (t0 + 51) n (L₀.drop 17)) (es := entS 3 t0 y) (es2 := entS 2 (t0 + 3 * (17 + 17 * n)) z) (ep := 17 + 17 * n) (ep2 := z.length) hl
      (by intro q; have := congrArg List.length q; rw [entS_length] at this; simp at this; rw [this] at htl; simp at htl; omega) (by rw [entS_length, entS_length]; omega) (entS_ints 2 z _) (merge_new hn hsp (entS_hash 3 y t0))
    rw [entS_length] at hmerge
    dsimp only
    rw [if_neg (by intro q; rw [List.isEmpty_iff] at q; rw [q] at hlz; simp at hlz; omega)]
    refine Ev_mono (k := 6 * z.length + 6 + (13 * z.length + 2)) ?_ (by omega)
    exact Ev_bind0 (Ev_bind (Ev_hold hsub) (Ev_bind0 (Ev_onRaise (Ev_hold hmerge)) Ev_pure)) Ev_pure
end
end Mine
end

section
open PySem PySem.W PyProof.Rows PySem.Calls
set_option maxRecDepth 100000
set_option maxHeartbeats 8000000
namespace Mine
def allConst : List (Option PySem.Expr) → List PySem.Expr → Bool
  | some (.Constant (.int _) _ _) :: ks, .Constant (.str _) _ _ :: vs => allConst ks vs
  | [], [] => true
  | _, _ => false
section
variable {w : World} {dp : Pos}
theorem Ev_cint {k : Int} {kk : Nat} {cp p : Pos} {s : Shared} {env : Env} : Ev w 1 (eval (.Constant (.int k) kk cp) env) s p (.int k s.toks) { s with toks := s.toks + 1 } p := fun K H gd lv N r h => by
  obtain ⟨heap, gens, drawn, toks, os⟩ := s
  exact (show topRun treeTable pw w (nat_lit 11) (some (.ref 6)) (N + 1) ⟨heap, gens, drawn, toks, os⟩ ⟨(eval (.Constant (.int k) kk cp) env).wrap K H gd lv, cE, p, frm⟩ = topRun treeTable pw w (nat_lit 11) (some (.ref 6)) N ⟨heap, gens, drawn, toks + 1, os⟩ ⟨K (.int k toks), cE, p, frm⟩ by kernel_rfl).trans h
theorem Ev_cstr {x : Str} {kk : Nat} {cp p : Pos} {s : Shared} {env : Env} : Ev w 1 (eval (.Constant (.str x) kk cp) env) s p (.str x s.toks) { s with toks := s.toks + 1 } p := fun K H gd lv N r h => by
  obtain ⟨heap, gens, drawn, toks, os⟩ := s
  exact (show topRun treeTable pw w (nat_lit 11) (some (.ref 6)) (N + 1) ⟨heap, gens, drawn, toks, os⟩ ⟨(eval (.Constant (.str x) kk cp) env).wrap K H gd lv, cE, p, frm⟩ = topRun treeTable pw w (nat_lit 11) (some (.ref 6)) N ⟨heap, gens, drawn, toks + 1, os⟩ ⟨K (.str x toks), cE, p, frm⟩ by kernel_rfl).trans h
theorem items_ok (w : World) (dp : Pos) (env : Env) : ∀ (ks : List (Option PySem.Expr)) (vs : List PySem.Expr) (i : Nat), allConst ks vs = true →
    ∃ its : List Itm, (evalEachOpt ks env).zip ((evalEach vs env).map fun v => do let x ← v; standAt dp; pure x) = its.map someIt ∧ BothI (ItemOk w dp) i ((dictInts ks).zip (dictStrs vs)) its
  | [], [], _, _ => ⟨[], rfl, .nil⟩
  | [], _ :: _, _, h => by simp [allConst] at h
  | none :: _, _, _, h => by simp [allConst] at h
  | some e :: ks, [], _, h => by cases e <;> first | (simp [allConst] at h; done) | (rename_i c _ _; cases c <;> simp [allConst] at h)
  | some e :: ks, v :: vs, i, h => by
    obtain ⟨k, kk, cp, rfl⟩ : ∃ k kk cp, e = .Constant (.int k) kk cp := by
      cases e <;> first | (simp [allConst] at h; done) | (rename_i c a b; cases c <;> first | (simp [allConst] at h; done) | exact ⟨_, _, _, rfl⟩)
    obtain ⟨x, kk', cp', rfl⟩ : ∃ x kk cp, v = .Constant (.str x) kk cp := by
      cases v <;> first | (simp [allConst] at h; done) | (rename_i c a b; cases c <;> first | (simp [allConst] at h; done) | exact ⟨_, _, _, rfl⟩)
    have h' : allConst ks vs = true := h
    obtain ⟨its, e1, e2⟩ := items_ok w dp env ks vs (i + 1) h'
    refine ⟨(eval (.Constant (.int k) kk cp) env, do let y ← eval (.Constant (.str x) kk' cp') env; standAt dp; pure y) :: its, ?_, ?_⟩
    · rw [evalEachOpt, evalEach, List.map_cons, List.zip_cons_cons, e1, List.map_cons]
      rfl
    · exact .cons (fun s p => ⟨Ev_cint (k := k) (kk := kk) (cp := cp) (env := env), Ev_bind (k₂ := 1) (Ev_cstr (x := x) (kk := kk') (cp := cp') (env := env)) (Ev_bind (k₂ := 0) Ev_at Ev_pure)⟩) e2
end
def asgKeys : Stmt → List (Option PySem.Expr)
  | .Assign _ (.Dict ks _ _) _ => ks
  | _ => []
def asgVals : Stmt → List PySem.Expr
  | .Assign _ (.Dict _ vs _) _ => vs
  | _ => []
theorem stm3_eq : stm 3 = .Assign [.Name (Str.ofString "b3_exceptions") ⟨5, 0, 5, 13⟩] (.Dict (asgKeys (stm 3)) (asgVals (stm 3)) ⟨5, 16, 5, 8704⟩) ⟨5, 0, 5, 8704⟩ := by kernel_rfl
theorem const3 : allConst (asgKeys (stm 3)) (asgVals (stm 3)) = true := by kernel_rfl
theorem pairs3 : b3Pairs = (dictInts (asgKeys (stm 3))).zip (dictStrs (asgVals (stm 3))) := by kernel_rfl
theorem swap3 : swapsWith (.Dict (asgKeys (stm 3)) (asgVals (stm 3)) ⟨5, 16, 5, 8704⟩) (some (.Name (Str.ofString "b3_exceptions") ⟨5, 0, 5, 13⟩)) (⟨5, 0, 5, 8704⟩ : Pos).line envE = pure false := by kernel_rfl
def risesP : Int → List (Int × Str) → Bool
  | _, [] => true
  | a, (k, _) :: r => decide (a < k) && risesP k r
theorem risesP_lt : ∀ {ps : List (Int × Str)} {a : Int}, risesP a ps = true → ∀ k ∈ ps.map (·.1), a < k
  | [], _, _, _, h => nomatch h
  | (k, v) :: r, a, h, x, hx => by
    obtain ⟨h1, h2⟩ := Bool.and_eq_true_iff.mp (show (decide (a < k) && risesP k r) = true from h)
    have h1 := of_decide_eq_true h1
    rcases List.mem_cons.mp hx with rfl | hx
    · exact h1
    · exact Int.lt_trans h1 (risesP_lt h2 x hx)
theorem risesP_nodup : ∀ {ps : List (Int × Str)} {a : Int}, risesP a ps = true → (ps.map (·.1)).Nodup
  | [], _, _ => .nil
  | (k, v) :: r, a, h => by
    obtain ⟨_, h2⟩ := Bool.and_eq_true_iff.mp (show (decide (a < k) && risesP k r) = true from h)
    exact List.nodup_cons.mpr ⟨fun hm => Int.lt_irrefl _ (risesP_lt h2 _ hm), risesP_nodup h2⟩
theorem b3_nodup : (b3Pairs.map (·.1)).Nodup := risesP_nodup (a := 0) (by decide +kernel)
theorem b3_hashes : ∀ x ∈ b3Pairs, x.1 = hashInt x.1 := fun x hx => by
  have := List.all_eq_true.mp (show b3Pairs.all (fun p => p.1 == hashInt p.1) = true by decide +kernel) x hx
  simpa using this
theorem b3_len : b3Pairs.length = 650 := by decide +kernel
theorem mid_eq (P : Params) : hpx (objs_p2 P) (dObj (entS 3 256 (b3Pairs.take (17 + 17 * 37)) ++ entS 2 (256 + 3 * (17 + 17 * 37)) (b3Pairs.drop (17 + 17 * 37))) (17 + 17 * 37 + (b3Pairs.drop (17 + 17 * 37)).length))
    (subsFrom (256 + 51) 37 (b3Pairs.drop 17) ++ [dObj (entS 2 (256 + 3 * (17 + 17 * 37)) (b3Pairs.drop (17 + 17 * 37))) (b3Pairs.drop (17 + 17 * 37)).length]) = hp_mid P := by kernel_rfl
theorem bind3 (w : World) (os : OsState) (K : Flow → Sem Fin) (H : Value → Sem Fin) (N : Nat) : topRun treeTable pw w (nat_lit 11) (some (.ref 6)) (N + 7) ⟨hp_mid w.params, Array.mk [], theDrawn, (nat_lit 2206), os⟩
    ⟨((do standAt ⟨5, 0, 5, 13⟩; bindName envE (Str.ofString "b3_exceptions") (.ref 33); pure Flow.next) : Sem Flow).wrap K H id id, cE, ⟨5, 16, 5, 8704⟩, frm⟩ =
    topRun treeTable pw w (nat_lit 11) (some (.ref 6)) N ⟨hp_p3 w.params, Array.mk [], theDrawn, (nat_lit 2207), os⟩ ⟨K .next, cE, ⟨5, 0, 5, 13⟩, frm⟩ := by kernel_rfl
end Mine
end

section
open PySem PySem.W PyProof.Rows PySem.Calls
set_option maxRecDepth 100000
set_option maxHeartbeats 8000000
namespace Mine
theorem Ev_then {α β : Type} {w : World} {k N : Nat} {x : Sem α} {f : α → Sem β} {a : α} {s s₁ r : Shared} {p p₁ : Pos} {K : β → Sem Fin} {H : Value → Sem Fin} {gd : Bool → Bool} {lv : List Value → List Value} (h₁ : Ev w k x s p a s₁ p₁) (h : goesTo w N s₁ ⟨(f a).wrap K H gd lv, cE, p₁, frm⟩ r) : goesTo w (N + k) s ⟨(x >>= f).wrap K H gd lv, cE, p, frm⟩ r := by
  rw [Sem.bind_eq_wrap', Sem.wrap_wrap]
  exact h₁ _ _ _ _ _ _ h
theorem Ev_dict3 (w : World) (os : OsState) (p : Pos) : Ev w 12910 (eval (.Dict (asgKeys (stm 3)) (asgVals (stm 3)) ⟨5, 16, 5, 8704⟩) envE) ⟨hp_p2 w.params, Array.mk [], theDrawn, (nat_lit 256), os⟩ p (.ref 33) ⟨hp_mid w.params, Array.mk [], theDrawn, (nat_lit 2206), os⟩ ⟨5, 16, 5, 8704⟩ := by
  obtain ⟨its, e1, e2⟩ := items_ok w ⟨5, 16, 5, 8704⟩ envE (asgKeys (stm 3)) (asgVals (stm 3)) 0 const3
  rw [← pairs3] at e2
  have hb := Ev_display (w := w) (dp := ⟨5, 16, 5, 8704⟩) (g := Array.mk []) (dr := theDrawn) (os := os) (L₀ := b3Pairs) (l := objs_p2 w.params) (t0 := 256) (n := 37) (its := its) (by rfl) b3_nodup b3_hashes (by rw [b3_len]; omega) (by rw [b3_len]; omega) (by rw [b3_len]; omega) e2
  rw [mid_eq, List.length_drop, b3_len] at hb
  rw [eval, e1]
  exact Ev_mono (Ev_bind Ev_at hb) (by omega)
theorem t_3 (w : World) (os : OsState) (N : Nat) (r : Shared) (h : topRun treeTable pw w (nat_lit 11) (some (.ref 6)) N ⟨hp_p3 w.params, Array.mk [], theDrawn, (nat_lit 2207), os⟩ (restOf (grpC ++ []) envE cE ⟨5, 0, 5, 13⟩ [topFrame ⟨0, 0, 0, 0⟩]) = some r) :
    topRun treeTable pw w (nat_lit 11) (some (.ref 6)) (12918 + N) ⟨hp_p2 w.params, Array.mk [], theDrawn, (nat_lit 256), os⟩ (restOf (stm 3 :: (grpC ++ [])) envE cE ⟨3, 0, 4, 30⟩ [topFrame ⟨0, 0, 0, 0⟩]) = some r := by
  unfold restOf
  rw [execs_cons_wrap, stm3_eq, exec_Assign_Name (hs := swap3), show 12918 + N = N + 7 + 12910 + 1 by omega]
  refine Ev_then (Ev_at (s := ⟨hp_p2 w.params, Array.mk [], theDrawn, (nat_lit 256), os⟩)) ?_
  refine Ev_then (Ev_dict3 w os _) ?_
  exact (bind3 w os _ _ N).trans h
theorem t_run (w : World) (os : OsState) : topRun treeTable pw w (nat_lit 11) (some (.ref 6)) (12 + (1 + (20 + (1010 + (40 + (12918 + (320 + 2))))))) ⟨boot_heap w.params, Array.mk [], boot_drawn, boot_toks, os⟩ (topStub pw) = some ⟨hp_fin w.params, Array.mk [], theDrawn, (nat_lit 2313), os⟩ := by
  refine go_top (congrFun (t_pre w) os) ?_
  refine piece_block (congrFun (t_block w) os) ?_
  rw [body_eq]
  refine piece_app (congrFun (t_0 w) os) ?_
  refine piece_app (congrFun (t_1 w) os) ?_
  refine piece_app (congrFun (t_2 w) os) ?_
  refine t_3 w os _ _ ?_
  refine piece_app (congrFun (t_C w) os) ?_
  exact piece_nil (congrFun (t_fin w) os)
def theXt : Shared → Bool := fun s => xlAt q [] s && recOk (RowW.records PySem.Challenge.rw_dw5012_01.row.toRowW) s
theorem t_open : ∀ w : World, (fencedOpening treeTable pw w 200000).map (fun s => (s.heap, s.gens, s.drawn, s.toks)) = some (boot_heap w.params, Array.mk [], boot_drawn, boot_toks) := boot_open (by kernel_rfl) (by kernel_rfl) (fun _ => by kernel_rfl)
theorem t_size : ∀ w : World, ((boot_heap w.params).isNs mainGlobals && (Array.mk [] : Array GenState).size == 0, (boot_heap w.params).objs.size, (boot_heap w.params).nsMap mainGlobals "__annotations__") = (true, (nat_lit 11), some (.ref 6)) := fun _ => by kernel_rfl
theorem t_looks : ∀ w : World, (fun os => ((staticsOk (importedModules pw.main.body) (boot_heap w.params) (hp_fin w.params) && namesBound pw (hp_fin w.params) && gensDone ⟨hp_fin w.params, Array.mk [], theDrawn, (nat_lit 2313), os⟩ && laidKept (boot_heap w.params) (hp_fin w.params)),
    openSeen q loose (importedModules pw.main.body) theXt true ⟨hp_fin w.params, Array.mk [], theDrawn, (nat_lit 2313), os⟩, (kHook K as as_eq).obs ⟨hp_fin w.params, Array.mk [], theDrawn, (nat_lit 2313), os⟩)) = fun _ => (true, openGood q loose, (kHook K as as_eq).val w) := fun _ => by kernel_rfl
end Mine
end

section
open PySem PySem.W PyProof.Rows PySem.Calls
set_option maxRecDepth 100000
set_option maxHeartbeats 8000000
namespace Mine
theorem t_left : LeftO pw q loose theXt (kHook K as as_eq).obs (kHook K as as_eq).val 200000 true :=
  LeftO.of_pieces (H₀ := boot_heap) (H₁ := hp_fin) (gs₀ := Array.mk []) (gs₁ := Array.mk []) (d₀ := boot_drawn) (d₁ := theDrawn) (k₀ := boot_toks) (k₁ := (nat_lit 2313)) (m₀ := (nat_lit 11)) (ann := some (.ref 6)) t_open t_size t_run (by decide) t_looks
theorem head (W : WalkGoal) : PySem.Challenge.rw_dw5012_01.Holds := by
  w_on
  o_law
  refine holds_open (q := q) (loose := loose) (Xt := theXt) (XP := XL q []) (Yf := (kHook K as as_eq).obs) (Ya := (kHook K as as_eq).val) (YP := (kHook K as as_eq).says) (N := 200000) (d := dLaw) (kwd := []) t_left (kHook K as as_eq).of (kHook K as as_eq).keeps (fun s e => xl_of s (Bool.and_eq_true_iff.mp e).1) XL.keeps (by rfl) (by rfl) (by rfl) (fun s e => recFacts_of (Bool.and_eq_true_iff.mp e).2) (by rfl) (by first | assumption | decide +kernel) (by decide +kernel) ⟨rfl, rfl, rfl, rfl, rfl, by decide +kernel⟩ ?hw ?hc
  case hw => w_witness2
  case hc => exact W
end Mine
end

set_option maxRecDepth 100000 in
set_option maxHeartbeats 8000000 in
theorem PySem.Challenge.cw_dw5012_01_holds : PySem.Challenge.rw_dw5012_01.Holds := by
  exact Mine.head Mine.walk
